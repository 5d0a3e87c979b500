import JvmDerived
import JvmDerived.Pilot.@@N@@Statement
import JvmDerived.Pilot.@@N@@Code
set_option linter.unusedVariables false
set_option linter.unusedSimpArgs false
/- laws to paste: Road.backV, Road.eqW, Road.codOf, pair_says, shr0 (cut by pick.py; bodies as the Statement names them) -/
namespace Jvm.Pilot.@@N@@
namespace StrChars
open Jvm Sem ClassFile Op Lib Jvm.Stand Jvm.Free.XT Jvm.Free.ALB Jvm.Free.JM Jvm.Free
open Jvm.Lib.Cold (StaticIs)
/-- a char array whose places are chars -/
def Ch (a : Addr) (A : Cell) (U : State) : Prop := Arr .char a A U ∧ Typed .char A
theorem Ch.mv {a : Addr} {A : Cell} {U U' : State} (h : Ch a A U) (hal : U.vm.Alike U'.vm) (hh : U'.heap = U.heap) : Ch a A U' := ⟨h.1.mv hal hh, h.2⟩
theorem Ch.keep {a : Addr} {A : Cell} {U U' : State} (h : Ch a A U) (hal : U.vm.Alike U'.vm) (hk : U'.heap[a]? = some A) : Ch a A U' := ⟨h.1.keep hal hk, h.2⟩
/-- what place i of a char[]'s cell holds -/
def cv (A : Cell) (i : Nat) : Int32 := match A.slots[i]? with | some (.int x) => x | _ => 0
theorem Ch.get {a : Addr} {A : Cell} {U : State} (h : Ch a A U) {i : Nat} (hi : i < A.slots.size) : A.slots[i]? = some (.int (cv A i)) := by
  have e := Array.getElem?_eq_getElem hi
  have f := h.2 i _ e
  unfold cv; rw [e]
  generalize A.slots[i] = v at f
  cases v <;> simp [fits] at f ⊢
/-- the byte that i2b leaves of a char -/
def lo8 (x : Int32) : Int32 := x.toInt8.toInt32
theorem fits_lo8 (y : Int32) : fits .byte (.int (lo8 y)) = true := by
  have h1 := y.toInt8.le_toInt
  have h2 := y.toInt8.toInt_lt
  simp only [lo8, fits, Bool.and_eq_true, decide_eq_true_eq, Int32.le_iff_toInt_le, Int8.toInt_toInt32, show (-128 : Int32).toInt = -128 from by decide, show (127 : Int32).toInt = 127 from by decide]
  omega
/-- A' is A but that each place j of lo .. hi - 1 holds f j -/
def Laid (A A' : Cell) (lo hi : Nat) (f : Nat → Value) : Prop := A'.cls = A.cls ∧ A'.vm = A.vm ∧ A'.slots.size = A.slots.size ∧ ∀ i, A'.slots[i]? = if lo ≤ i ∧ i < hi then some (f i) else A.slots[i]?
theorem Laid.zero (A : Cell) (lo : Nat) (f : Nat → Value) : Laid A A lo (lo + 0) f := ⟨rfl, rfl, rfl, fun i => by rw [if_neg (by omega)]⟩
theorem Laid.step {A Ak : Cell} {lo k : Nat} {f : Nat → Value} {v : Value} (h : Laid A Ak lo k f) (hlo : lo ≤ k) (hk : k < Ak.slots.size) (hv : v = f k) : Laid A (Ak.setSlot k v) lo (k + 1) f := by
  refine ⟨h.1, h.2.1, by simpa [Cell.setSlot] using h.2.2.1, fun i => ?_⟩
  by_cases e : k = i
  · subst e; rw [Cell.slots_setSlot_self v hk, if_pos (by omega), hv]
  · rw [Cell.slots_setSlot_ne v e, h.2.2.2 i]
    by_cases q : lo ≤ i ∧ i < k
    · rw [if_pos q, if_pos (by omega)]
    · rw [if_neg q, if_neg (by omega)]
def U16 : String := "java/lang/StringUTF16"
namespace Cmp5
def yN : MethodName := ⟨"java/lang/StringUTF16", "compress", "([CI[BII)I"⟩
abbrev yB : ByteArray := jdk_52_method_21_code
theorem d0 : decode yB 0 = .ok (.iconst 0, 1) := by decide +kernel
theorem d1 : decode yB 1 = .ok (.istore 5, 2) := by decide +kernel
theorem d3 : decode yB 3 = .ok (.iload 5, 2) := by decide +kernel
theorem d5 : decode yB 5 = .ok (.iload 4, 2) := by decide +kernel
theorem d7 : decode yB 7 = .ok (.if_icmp (.ge) 37, 3) := by decide +kernel
theorem d10 : decode yB 10 = .ok (.aload_n 0, 1) := by decide +kernel
theorem d11 : decode yB 11 = .ok (.iload_n 1, 1) := by decide +kernel
theorem d12 : decode yB 12 = .ok (.caload, 1) := by decide +kernel
theorem d13 : decode yB 13 = .ok (.istore 6, 2) := by decide +kernel
theorem d15 : decode yB 15 = .ok (.iload 6, 2) := by decide +kernel
theorem d17 : decode yB 17 = .ok (.sipush 255, 3) := by decide +kernel
theorem d20 : decode yB 20 = .ok (.if_icmp (.le) 6, 3) := by decide +kernel
theorem d26 : decode yB 26 = .ok (.aload_n 2, 1) := by decide +kernel
theorem d27 : decode yB 27 = .ok (.iload_n 3, 1) := by decide +kernel
theorem d28 : decode yB 28 = .ok (.iload 6, 2) := by decide +kernel
theorem d30 : decode yB 30 = .ok (.i2b, 1) := by decide +kernel
theorem d31 : decode yB 31 = .ok (.bastore, 1) := by decide +kernel
theorem d32 : decode yB 32 = .ok (.iinc 1 1, 3) := by decide +kernel
theorem d35 : decode yB 35 = .ok (.iinc 3 1, 3) := by decide +kernel
theorem d38 : decode yB 38 = .ok (.iinc 5 1, 3) := by decide +kernel
theorem d41 : decode yB 41 = .ok (.goto (-38), 3) := by decide +kernel
theorem d44 : decode yB 44 = .ok (.iload 4, 2) := by decide +kernel
theorem d46 : decode yB 46 = .ok (.ireturn, 1) := by decide +kernel
def site : List Cond := []
def tab : Cond := tabOf yN yB 7 (some .int) site
def P (b : Addr) (A : Cell) (d : Addr) (B : Cell) (o q len : Nat) (args : Array Value) (s : State) : Prop := args = #[.ref b, .int (Int32.ofNat o), .ref d, .int (Int32.ofNat q), .int (Int32.ofNat len)] ∧ Ch b A s ∧ Arr .byte d B s ∧ b ≠ d ∧ o + len ≤ A.slots.size ∧ q + len ≤ B.slots.size ∧ ∀ i, i < len → ¬ 255 < cv A (o + i)
def E (b : Addr) (A : Cell) (d : Addr) (B : Cell) (o q len : Nat) (r : Option Value) (s u : State) : Prop := r = some (.int (Int32.ofNat len)) ∧ ∃ B', Put d B' s u ∧ Laid B B' q (q + len) (fun j => Value.int (lo8 (cv A (o + (j - q)))))
/-- no char of the range above 255: len; the places written hold each char's low byte -/
theorem law (l : Launch) (b : Addr) (A : Cell) (d : Addr) (B : Cell) (o q len : Nat) : Law l yN 5 5 0 0 yB 7 (some .int) site (P b A d B o q len) (E b A d B o q len) (copyLocs d q len) 0 0 := by
  refine Law.of_walk (plainFor_of_name (by decide +kernel)) (by decide +kernel) (by decide +kernel) (by decide) (fun _ _ h => by rw [h.1]; rfl) (fun _ U U' hal hh h => ⟨h.1, h.2.1.mv hal hh, h.2.2.1.mv hal hh, h.2.2.2⟩) (fun r U U' V V' h1 hal h2 h => ⟨h.1, h.2.elim fun B' q => ⟨B', q.1.mv h1 h2, q.2⟩⟩) ?_
  intro p e s m args below meth c s₁ X0 hexec hbytes hml hret hlk hnm hown hh0 W hP
  obtain ⟨rfl, hA, hB, hne, l1, l2, hp⟩ := hP
  have c1 : Steps p.tables e below (s₁.setTop (entryFrame m #[.ref b, .int (Int32.ofNat o), .ref d, .int (Int32.ofNat q), .int (Int32.ofNat len)] 7)) (s₁.setTop (mkF m 0 #[.val (.ref b), .val (.int (Int32.ofNat o)), .val (.ref d), .val (.int (Int32.ofNat q)), .val (.int (Int32.ofNat len)), .unset, .unset] [])) := entry rfl
  have hA0 := hA.1.mv X0.warmed.alike hh0
  have hB0 := hB.mv X0.warmed.alike hh0
  have a31 := hA.1.2.2.2
  have c2 : Steps p.tables e below (s₁.setTop (entryFrame m #[.ref b, .int (Int32.ofNat o), .ref d, .int (Int32.ofNat q), .int (Int32.ofNat len)] 7)) (s₁.setTop (mkF m 3 #[.val (.ref b), .val (.int (Int32.ofNat o)), .val (.ref d), .val (.int (Int32.ofNat q)), .val (.int (Int32.ofNat len)), .val (.int 0), .unset] [])) := c1.trans (by
    refine iconstV X0.here hexec rfl 0 (hb hbytes d0) (by decide) ?_
    refine XS.istore X0.here hexec rfl (hb hbytes d1) rfl rfl ?_
    exact Steps.refl _)
  have loop : ∀ (r i : Nat), i + r = len → ∀ (z : Slot), (z = .unset ∨ ∃ w, z = .val w ∧ w.category = 1) → ∀ (Tl : State) (Bk : Cell), Stand p l e { frames := 0, locals := 0, cells := 0, slots := 0 } s m #[.ref b, .int (Int32.ofNat o), .ref d, .int (Int32.ofNat q), .int (Int32.ofNat len)] below meth c Tl ([] ++ copyLocs d q i) 0 0 → Put d Bk s₁ Tl → Laid B Bk q (q + i) (fun j => Value.int (lo8 (cv A (o + (j - q))))) →
      Steps p.tables e below (s₁.setTop (entryFrame m #[.ref b, .int (Int32.ofNat o), .ref d, .int (Int32.ofNat q), .int (Int32.ofNat len)] 7)) (Tl.setTop (mkF m 3 #[.val (.ref b), .val (.int (Int32.ofNat (o + i))), .val (.ref d), .val (.int (Int32.ofNat (q + i))), .val (.int (Int32.ofNat len)), .val (.int (Int32.ofNat i)), z] [])) → ∃ (T' : State) (B' : Cell) (z' : Slot), Stand p l e { frames := 0, locals := 0, cells := 0, slots := 0 } s m #[.ref b, .int (Int32.ofNat o), .ref d, .int (Int32.ofNat q), .int (Int32.ofNat len)] below meth c T' ([] ++ copyLocs d q len) 0 0 ∧ Put d B' s₁ T' ∧ Laid B B' q (q + len) (fun j => Value.int (lo8 (cv A (o + (j - q))))) ∧
      Steps p.tables e below (s₁.setTop (entryFrame m #[.ref b, .int (Int32.ofNat o), .ref d, .int (Int32.ofNat q), .int (Int32.ofNat len)] 7)) (T'.setTop (mkF m 3 #[.val (.ref b), .val (.int (Int32.ofNat (o + len))), .val (.ref d), .val (.int (Int32.ofNat (q + len))), .val (.int (Int32.ofNat len)), .val (.int (Int32.ofNat len)), z'] [])) := by
    intro r
    induction r with
    | zero =>
      intro i hi z hz Tl Bk Xl pl fl cl
      have hil : i = len := by omega
      rw [hil] at Xl fl cl
      exact ⟨Tl, Bk, z, Xl, pl, fl, cl⟩
    | succ r ih =>
      intro i hi z hz Tl Bk Xl pl fl cl
      have all := X0.warmed.alike.symm.trans Xl.warmed.alike
      have hAl := hA0.keep all (pl.other hne hA0.1)
      have hBk := hB0.like all pl.1 fl.1 fl.2.1 fl.2.2.1
      have hlt : q + i < Bk.slots.size := by rw [fl.2.2.1]; omega
      have c3 : Steps p.tables e below (s₁.setTop (entryFrame m #[.ref b, .int (Int32.ofNat o), .ref d, .int (Int32.ofNat q), .int (Int32.ofNat len)] 7)) (Tl.setTop (mkF m 12 #[.val (.ref b), .val (.int (Int32.ofNat (o + i))), .val (.ref d), .val (.int (Int32.ofNat (q + i))), .val (.int (Int32.ofNat len)), .val (.int (Int32.ofNat i)), z] [.int (Int32.ofNat (o + i)), .ref b])) := cl.trans (by
        refine XS.iload Xl.here hexec rfl (hb hbytes d3) rfl ?_
        refine XS.iload Xl.here hexec rfl (hb hbytes d5) rfl ?_
        refine XS.icmpNo Xl.here hexec rfl (hb hbytes d7) rfl (ii_ge_f (lt32 (by omega) (by omega))) ?_
        refine XS.aloadN Xl.here hexec rfl (hb hbytes d10) rfl rfl ?_
        refine XS.iloadN Xl.here hexec rfl (hb hbytes d11) rfl ?_
        exact Steps.refl _)
      have c4 : Steps p.tables e below (s₁.setTop (entryFrame m #[.ref b, .int (Int32.ofNat o), .ref d, .int (Int32.ofNat q), .int (Int32.ofNat len)] 7)) (Tl.setTop (mkF m 13 #[.val (.ref b), .val (.int (Int32.ofNat (o + i))), .val (.ref d), .val (.int (Int32.ofNat (q + i))), .val (.int (Int32.ofNat len)), .val (.int (Int32.ofNat i)), z] [.int (cv A (o + i))])) := c3.trans (by
        refine Xl.aget hexec hAl rfl (hA.get (i := o + i) (by omega)) rfl rfl (hb hbytes d12) ?_
        exact Steps.refl _)
      have c5 : Steps p.tables e below (s₁.setTop (entryFrame m #[.ref b, .int (Int32.ofNat o), .ref d, .int (Int32.ofNat q), .int (Int32.ofNat len)] 7)) (Tl.setTop (mkF m 15 #[.val (.ref b), .val (.int (Int32.ofNat (o + i))), .val (.ref d), .val (.int (Int32.ofNat (q + i))), .val (.int (Int32.ofNat len)), .val (.int (Int32.ofNat i)), .val (.int (cv A (o + i)))] [])) := c4.trans (by
        refine XS.istoreS Xl.here hexec rfl (hb hbytes d13) rfl rfl hz ?_
        exact Steps.refl _)
      have c6 : Steps p.tables e below (s₁.setTop (entryFrame m #[.ref b, .int (Int32.ofNat o), .ref d, .int (Int32.ofNat q), .int (Int32.ofNat len)] 7)) (Tl.setTop (mkF m 31 #[.val (.ref b), .val (.int (Int32.ofNat (o + i))), .val (.ref d), .val (.int (Int32.ofNat (q + i))), .val (.int (Int32.ofNat len)), .val (.int (Int32.ofNat i)), .val (.int (cv A (o + i)))] [.int (lo8 (cv A (o + i))), .int (Int32.ofNat (q + i)), .ref d])) := c5.trans (by
        refine XS.iload Xl.here hexec rfl (hb hbytes d15) rfl ?_
        refine sipushV Xl.here hexec rfl 255 (hb hbytes d17) (by decide) ?_
        refine XS.icmpYes Xl.here hexec rfl (pc0 := 20) rfl (hb hbytes d20) rfl (ii_le_t (hp i (by omega))) (by decide) rfl ?_
        refine XS.aloadN Xl.here hexec rfl (hb hbytes d26) rfl rfl ?_
        refine XS.iloadN Xl.here hexec rfl (hb hbytes d27) rfl ?_
        refine XS.iload Xl.here hexec rfl (hb hbytes d28) rfl ?_
        refine i2b Xl.here hexec rfl (hb hbytes d30) rfl ?_
        exact Steps.refl _)
      obtain ⟨T7, X7, p7, st7⟩ := Xl.aput hexec hBk rfl hlt rfl (fits_lo8 (cv A (o + i))) (g := (mkF m 31 #[.val (.ref b), .val (.int (Int32.ofNat (o + i))), .val (.ref d), .val (.int (Int32.ofNat (q + i))), .val (.int (Int32.ofNat len)), .val (.int (Int32.ofNat i)), .val (.int (cv A (o + i)))] [.int (lo8 (cv A (o + i))), .int (Int32.ofNat (q + i)), .ref d])) rfl (rest := []) rfl (hb hbytes d31)
      have c8 : Steps p.tables e below (s₁.setTop (entryFrame m #[.ref b, .int (Int32.ofNat o), .ref d, .int (Int32.ofNat q), .int (Int32.ofNat len)] 7)) (T7.setTop (mkF m 32 #[.val (.ref b), .val (.int (Int32.ofNat (o + i))), .val (.ref d), .val (.int (Int32.ofNat (q + i))), .val (.int (Int32.ofNat len)), .val (.int (Int32.ofNat i)), .val (.int (cv A (o + i)))] [])) := c6.trans (st7 _ (Steps.refl _))
      have c9 : Steps p.tables e below (s₁.setTop (entryFrame m #[.ref b, .int (Int32.ofNat o), .ref d, .int (Int32.ofNat q), .int (Int32.ofNat len)] 7)) (T7.setTop (mkF m 3 #[.val (.ref b), .val (.int (Int32.ofNat (o + i) + 1)), .val (.ref d), .val (.int (Int32.ofNat (q + i) + 1)), .val (.int (Int32.ofNat len)), .val (.int (Int32.ofNat i + 1)), .val (.int (cv A (o + i)))] [])) := c8.trans (by
        refine iincV X7.here hexec rfl 1 (hb hbytes d32) (by decide) rfl rfl ?_
        refine iincV X7.here hexec rfl 1 (hb hbytes d35) (by decide) rfl rfl ?_
        refine iincV X7.here hexec rfl 1 (hb hbytes d38) (by decide) rfl rfl ?_
        refine XS.goto X7.here hexec rfl (pc0 := 41) rfl (hb hbytes d41) (by decide) rfl ?_
        exact Steps.refl _)
      have c10 : Steps p.tables e below (s₁.setTop (entryFrame m #[.ref b, .int (Int32.ofNat o), .ref d, .int (Int32.ofNat q), .int (Int32.ofNat len)] 7)) (T7.setTop (mkF m 3 #[.val (.ref b), .val (.int (Int32.ofNat (o + (i + 1)))), .val (.ref d), .val (.int (Int32.ofNat (q + (i + 1)))), .val (.int (Int32.ofNat len)), .val (.int (Int32.ofNat (i + 1))), .val (.int (cv A (o + i)))] [])) := by
        have := c9
        rw [succ32, succ32, succ32] at this
        exact this
      exact ih (i + 1) (by omega) _ (Or.inr ⟨_, rfl, rfl⟩) T7 _ (by rw [copyLocs_step, ← List.append_assoc]; exact X7) (pl.trans p7) (fl.step (by omega) hlt (by simp)) c10
  obtain ⟨T9, B9, z9, X9, p9, f9, g9⟩ := loop len 0 (by omega) .unset (Or.inl rfl) s₁ B (by simpa [copyLocs] using X0) ⟨hB0.1, fun _ _ => rfl, rfl⟩ (Laid.zero _ _ _) c2
  have c11 : Steps p.tables e below (s₁.setTop (entryFrame m #[.ref b, .int (Int32.ofNat o), .ref d, .int (Int32.ofNat q), .int (Int32.ofNat len)] 7)) (T9.setTop (mkF m 46 #[.val (.ref b), .val (.int (Int32.ofNat (o + len))), .val (.ref d), .val (.int (Int32.ofNat (q + len))), .val (.int (Int32.ofNat len)), .val (.int (Int32.ofNat len)), z9] [.int (Int32.ofNat len)])) := g9.trans (by
    refine XS.iload X9.here hexec rfl (hb hbytes d3) rfl ?_
    refine XS.iload X9.here hexec rfl (hb hbytes d5) rfl ?_
    refine XS.icmpYes X9.here hexec rfl (pc0 := 7) rfl (hb hbytes d7) rfl (ii_ge_t (nlt32 (by omega) (Nat.le_refl _))) (by decide) rfl ?_
    refine XS.iload X9.here hexec rfl (hb hbytes d44) rfl ?_
    exact Steps.refl _)
  exact ⟨T9, some (.int (Int32.ofNat len)), _, _, _, X9, by simp, rfl, rfl, (fun h => by cases h), ⟨rfl, B9, p9.from hh0, f9⟩, fun fs hl => c11.trans (X9.ireturnOut hexec hret rfl (Or.inl rfl) (hb hbytes d46) hl)⟩
end Cmp5
namespace Cmp3
def yN : MethodName := ⟨"java/lang/StringUTF16", "compress", "([CII)[B"⟩
abbrev yB : ByteArray := jdk_52_method_16_code
theorem d0 : decode yB 0 = .ok (.iload_n 2, 1) := by decide +kernel
theorem d1 : decode yB 1 = .ok (.newarray .byte, 2) := by decide +kernel
theorem d3 : decode yB 3 = .ok (.astore_n 3, 1) := by decide +kernel
theorem d4 : decode yB 4 = .ok (.aload_n 0, 1) := by decide +kernel
theorem d5 : decode yB 5 = .ok (.iload_n 1, 1) := by decide +kernel
theorem d6 : decode yB 6 = .ok (.aload_n 3, 1) := by decide +kernel
theorem d7 : decode yB 7 = .ok (.iconst 0, 1) := by decide +kernel
theorem d8 : decode yB 8 = .ok (.iload_n 2, 1) := by decide +kernel
theorem d9 : decode yB 9 = .ok (.invokestatic 115, 3) := by decide +kernel
theorem d12 : decode yB 12 = .ok (.istore 4, 2) := by decide +kernel
theorem d14 : decode yB 14 = .ok (.iload 4, 2) := by decide +kernel
theorem d16 : decode yB 16 = .ok (.iload_n 2, 1) := by decide +kernel
theorem d17 : decode yB 17 = .ok (.if_icmp (.eq) 40, 3) := by decide +kernel
theorem d57 : decode yB 57 = .ok (.aload_n 3, 1) := by decide +kernel
theorem d58 : decode yB 58 = .ok (.areturn, 1) := by decide +kernel
def site : List Cond := [.arrayClass .byte, Cmp5.tab] ++ staticW U16 115 Cmp5.yN
def tab : Cond := tabOf yN yB 6 (some (.array .byte)) site
def P (b : Addr) (A : Cell) (o len : Nat) (args : Array Value) (s : State) : Prop := args = #[.ref b, .int (Int32.ofNat o), .int (Int32.ofNat len)] ∧ Ch b A s ∧ o + len ≤ A.slots.size ∧ len ≤ 536870912 ∧ ∀ i, i < len → ¬ 255 < cv A (o + i)
def E (b : Addr) (A : Cell) (o len : Nat) (r : Option Value) (s u : State) : Prop := NewArr .byte "[B" len (fun j => .int (lo8 (cv A (o + j)))) r s u ∧ u.heap.size = s.heap.size + 1
/-- no char of the range above 255: a new byte[] of their low bytes -/
theorem law (l : Launch) (b : Addr) (A : Cell) (o len : Nat) : Law l yN 3 3 1 18 yB 6 (some (.array .byte)) site (P b A o len) (E b A o len) [] 1 len := by
  refine Law.of_walk (plainFor_of_name (by decide +kernel)) (by decide +kernel) (by decide +kernel) (by decide) (fun _ _ h => by rw [h.1]; rfl) (fun _ U U' hal hh h => ⟨h.1, h.2.1.mv hal hh, h.2.2⟩) (fun r U U' V V' h1 hal h2 h => ⟨NewArr.mv r U U' V V' h1 hal h2 h.1, by rw [h1, h2]; exact h.2⟩) ?_
  intro p e s m args below meth c s₁ X0 hexec hbytes hml hret hlk hnm hown hh0 W hP
  obtain ⟨rfl, hA, l1, l2, hp⟩ := hP
  have a31 := hA.1.2.2.2
  have c1 : Steps p.tables e below (s₁.setTop (entryFrame m #[.ref b, .int (Int32.ofNat o), .int (Int32.ofNat len)] 6)) (s₁.setTop (mkF m 0 #[.val (.ref b), .val (.int (Int32.ofNat o)), .val (.int (Int32.ofNat len)), .unset, .unset, .unset] [])) := entry rfl
  have c2 : Steps p.tables e below (s₁.setTop (entryFrame m #[.ref b, .int (Int32.ofNat o), .int (Int32.ofNat len)] 6)) (s₁.setTop (mkF m 1 #[.val (.ref b), .val (.int (Int32.ofNat o)), .val (.int (Int32.ofNat len)), .unset, .unset, .unset] [.int (Int32.ofNat len)])) := c1.trans (by
    refine XS.iloadN X0.here hexec rfl (hb hbytes d0) rfl ?_
    exact Steps.refl _)
  obtain ⟨T3, B3, X3, ba3, bs3, bv3, bh3, bf3, st3⟩ := X0.anew hexec (atype := .byte) (wk W (.arrayClass .byte)) rfl (by show len * 1 ≤ _; omega) (by omega) (g := (mkF m 1 #[.val (.ref b), .val (.int (Int32.ofNat o)), .val (.int (Int32.ofNat len)), .unset, .unset, .unset] [.int (Int32.ofNat len)])) rfl (hb hbytes d1) (rest := []) rfl (Nat.le_refl _) (by show 0 + len ≤ len; omega)
  rw [hh0] at ba3 st3
  have kp3 : XT.Kept s T3 := (XT.Kept.of_eq hh0).push bh3
  have hA3 := hA.keep X3.warmed.alike (kp3 _ _ hA.1.1)
  have hne : b ≠ s.heap.size := hA.1.ne
  have c4 : Steps p.tables e below (s₁.setTop (entryFrame m #[.ref b, .int (Int32.ofNat o), .int (Int32.ofNat len)] 6)) (T3.setTop (mkF m 3 #[.val (.ref b), .val (.int (Int32.ofNat o)), .val (.int (Int32.ofNat len)), .unset, .unset, .unset] [.ref s.heap.size])) := c2.trans (st3 _ (Steps.refl _))
  have c5 : Steps p.tables e below (s₁.setTop (entryFrame m #[.ref b, .int (Int32.ofNat o), .int (Int32.ofNat len)] 6)) (T3.setTop (mkF m 9 #[.val (.ref b), .val (.int (Int32.ofNat o)), .val (.int (Int32.ofNat len)), .val (.ref s.heap.size), .unset, .unset] [.int (Int32.ofNat len), .int 0, .ref s.heap.size, .int (Int32.ofNat o), .ref b])) := c4.trans (by
    refine XS.astoreN X3.here hexec rfl (hb hbytes d3) rfl rfl rfl ?_
    refine XS.aloadN X3.here hexec rfl (hb hbytes d4) rfl rfl ?_
    refine XS.iloadN X3.here hexec rfl (hb hbytes d5) rfl ?_
    refine XS.aloadN X3.here hexec rfl (hb hbytes d6) rfl rfl ?_
    refine iconstV X3.here hexec rfl 0 (hb hbytes d7) (by decide) ?_
    refine XS.iloadN X3.here hexec rfl (hb hbytes d8) rfl ?_
    exact Steps.refl _)
  obtain ⟨v6, T6, X6, E6, g6⟩ := X3.callS hexec (Cmp5.law l b A s.heap.size B3 o 0 len) hown (wks W (staticW U16 115 Cmp5.yN)) (wk W Cmp5.tab) (W := 0) (Nat.le_of_ble_eq_true rfl) (Nat.le_of_ble_eq_true rfl) (Nat.le_refl _) (by show 0 + len + 0 ≤ len; omega) (g := (mkF m 9 #[.val (.ref b), .val (.int (Int32.ofNat o)), .val (.int (Int32.ofNat len)), .val (.ref s.heap.size), .unset, .unset] [.int (Int32.ofNat len), .int (Int32.ofNat 0), .ref s.heap.size, .int (Int32.ofNat o), .ref b])) rfl (by rw [hml]; rfl) c5 (argsL := [.ref b, .int (Int32.ofNat o), .ref s.heap.size, .int (Int32.ofNat 0), .int (Int32.ofNat len)]) (rest := []) rfl rfl (by show 2 * 0 + 0 ≤ _; decide) (hb hbytes d9) (⟨rfl, hA3, ba3, hne, l1, by rw [bs3]; simp, hp⟩)
  obtain ⟨rfl, B6, p6, f6⟩ := E6
  have c7 : Steps p.tables e below (s₁.setTop (entryFrame m #[.ref b, .int (Int32.ofNat o), .int (Int32.ofNat len)] 6)) (T6.setTop (mkF m 12 #[.val (.ref b), .val (.int (Int32.ofNat o)), .val (.int (Int32.ofNat len)), .val (.ref s.heap.size), .unset, .unset] [.int (Int32.ofNat len)])) := g6
  have c8 : Steps p.tables e below (s₁.setTop (entryFrame m #[.ref b, .int (Int32.ofNat o), .int (Int32.ofNat len)] 6)) (T6.setTop (mkF m 58 #[.val (.ref b), .val (.int (Int32.ofNat o)), .val (.int (Int32.ofNat len)), .val (.ref s.heap.size), .val (.int (Int32.ofNat len)), .unset] [.ref s.heap.size])) := c7.trans (by
    refine XS.istore X6.here hexec rfl (hb hbytes d12) rfl rfl ?_
    refine XS.iload X6.here hexec rfl (hb hbytes d14) rfl ?_
    refine XS.iloadN X6.here hexec rfl (hb hbytes d16) rfl ?_
    refine XS.icmpYes X6.here hexec rfl (pc0 := 17) rfl (hb hbytes d17) rfl (ii_eq_t rfl) (by decide) rfl ?_
    refine XS.aloadN X6.here hexec rfl (hb hbytes d57) rfl rfl ?_
    exact Steps.refl _)
  have X8 := X6.wide (L' := []) (cells' := 1) (slots' := len) (fun x hx hlt => by
    simp only [List.nil_append, copyLocs, List.mem_map, List.mem_range] at hx
    obtain ⟨i, -, rfl⟩ := hx
    exact absurd hlt (Nat.lt_irrefl _)) (Nat.le_refl _) (by omega)
  exact ⟨T6, some (.ref s.heap.size), _, _, _, X8, rfl, rfl, rfl, (fun h => by cases h), ⟨⟨rfl, B6, ba3.like (X3.warmed.alike.symm.trans X6.warmed.alike) p6.1 f6.1 f6.2.1 f6.2.2.1, f6.2.1.trans bv3, by rw [X6.warmed.alike.findClass, f6.1]; exact bf3, by rw [f6.2.2.1, bs3]; simp, fun j hj => by rw [f6.2.2.2 j, if_pos (by omega)]; rfl, kp3.put p6 (Nat.le_refl _)⟩, by rw [p6.2.2, bh3, hh0]; simp⟩, fun fs hl => c8.trans (X8.areturnOut hexec rfl hret rfl (hb hbytes d58) hl)⟩
end Cmp3
namespace CodL
def yN : MethodName := ⟨"java/lang/StringUTF16", "coderFromArrayLen", "([BI)B"⟩
abbrev yB : ByteArray := jdk_52_method_15_code
theorem d0 : decode yB 0 = .ok (.iload_n 1, 1) := by decide +kernel
theorem d1 : decode yB 1 = .ok (.aload_n 0, 1) := by decide +kernel
theorem d2 : decode yB 2 = .ok (.arraylength, 1) := by decide +kernel
theorem d3 : decode yB 3 = .ok (.isub, 1) := by decide +kernel
theorem d4 : decode yB 4 = .ok (.bipush 31, 2) := by decide +kernel
theorem d6 : decode yB 6 = .ok (.iushr, 1) := by decide +kernel
theorem d7 : decode yB 7 = .ok (.i2b, 1) := by decide +kernel
theorem d8 : decode yB 8 = .ok (.ireturn, 1) := by decide +kernel
def site : List Cond := []
def tab : Cond := tabOf yN yB 2 (some .byte) site
def P (d : Addr) (B : Cell) (args : Array Value) (s : State) : Prop := args = #[.ref d, .int (Int32.ofNat B.slots.size)] ∧ Arr .byte d B s
def E (r : Option Value) (s u : State) : Prop := XT.PureE (some (.int 0)) r s u
/-- an array as long as the number of chars: LATIN1 -/
theorem law (l : Launch) (d : Addr) (B : Cell) : Law l yN 2 2 0 0 yB 2 (some .byte) site (P d B) E [] 0 0 := by
  refine Law.of_walk (plainFor_of_name (by decide +kernel)) (by decide +kernel) (by decide +kernel) (by decide) (fun _ _ h => by rw [h.1]; rfl) (fun _ U U' hal hh h => ⟨h.1, h.2.mv hal hh⟩) (fun r U U' V V' h1 hal h2 h => XT.PureE.mv r U U' V V' h1 hal h2 h) ?_
  intro p e s m args below meth c s₁ X0 hexec hbytes hml hret hlk hnm hown hh0 W hP
  obtain ⟨rfl, hB⟩ := hP
  have hB0 := hB.mv X0.warmed.alike hh0
  have c1 : Steps p.tables e below (s₁.setTop (entryFrame m #[.ref d, .int (Int32.ofNat B.slots.size)] 2)) (s₁.setTop (mkF m 0 #[.val (.ref d), .val (.int (Int32.ofNat B.slots.size))] [])) := entry rfl
  have c2 : Steps p.tables e below (s₁.setTop (entryFrame m #[.ref d, .int (Int32.ofNat B.slots.size)] 2)) (s₁.setTop (mkF m 2 #[.val (.ref d), .val (.int (Int32.ofNat B.slots.size))] [.ref d, .int (Int32.ofNat B.slots.size)])) := c1.trans (by
    refine XS.iloadN X0.here hexec rfl (hb hbytes d0) rfl ?_
    refine XS.aloadN X0.here hexec rfl (hb hbytes d1) rfl rfl ?_
    exact Steps.refl _)
  have c3 : Steps p.tables e below (s₁.setTop (entryFrame m #[.ref d, .int (Int32.ofNat B.slots.size)] 2)) (s₁.setTop (mkF m 8 #[.val (.ref d), .val (.int (Int32.ofNat B.slots.size))] [.int (lo8 (ushr (Int32.ofNat B.slots.size - Int32.ofNat B.slots.size) 31))])) := c2.trans (by
    refine X0.alen hexec hB0 rfl rfl (hb hbytes d2) ?_
    refine XS.isub X0.here hexec rfl (hb hbytes d3) rfl ?_
    refine bipushV X0.here hexec rfl 31 (hb hbytes d4) (by decide) ?_
    refine iushr X0.here hexec rfl (hb hbytes d6) rfl ?_
    refine i2b X0.here hexec rfl (hb hbytes d7) rfl ?_
    exact Steps.refl _)
  have e0 : lo8 (ushr (Int32.ofNat B.slots.size - Int32.ofNat B.slots.size) 31) = 0 := by rw [Int32.sub_self]; decide
  rw [e0] at c3
  exact ⟨s₁, some (.int 0), _, _, _, X0, rfl, rfl, rfl, (fun h => by cases h), ⟨rfl, hh0⟩, fun fs hl => c3.trans (X0.ireturnOut hexec hret rfl (Or.inr (Or.inr (Or.inl rfl))) (hb hbytes d8) hl)⟩
end CodL
/-- the String at a is Latin-1 over a new byte[] (the heap's one new cell): the low bytes of the len chars of A from o on; every cell but a is kept -/
def Got (a : Addr) (D : Cell) (fV fC : Field) (A : Cell) (o len : Nat) (r : Option Value) (s u : State) : Prop := r = none ∧ ∃ D' V : Cell, Blank "java/lang/String" a D' u ∧ Same D D' [fV.slot, fC.slot] ∧ D'.slots[fV.slot]? = some (.ref s.heap.size) ∧ D'.slots[fC.slot]? = some (.int 0) ∧ Arr .byte s.heap.size V u ∧ V.vm = .none ∧ u.vm.findClass "[B" = some V.cls ∧ V.slots.size = len ∧ (∀ j, j < len → V.slots[j]? = some (.int (lo8 (cv A (o + j))))) ∧ (∀ (y : Addr) (c : Cell), y ≠ a → s.heap[y]? = some c → u.heap[y]? = some c) ∧ u.heap.size = s.heap.size + 1
theorem Got.mv {a : Addr} {D A : Cell} {fV fC : Field} {o len : Nat} : ∀ r (U U' V V' : State), U'.heap = U.heap → V.vm.Alike V'.vm → V'.heap = V.heap → Got a D fV fC A o len r U V → Got a D fV fC A o len r U' V' :=
  fun r U U' V V' h1 hal h2 ⟨e0, D', X, a1, a2, a3, a4, a5, a6, a7, a8, a9, a10, a11⟩ => ⟨e0, D', X, a1.mv hal h2, a2, by rw [h1]; exact a3, a4, by rw [h1]; exact a5.mv hal h2, a6, by rw [hal.findClass]; exact a7, a8, a9, by rw [h1, h2]; exact a10, by rw [h1, h2]; exact a11⟩
namespace New4
def yN : MethodName := ⟨"java/lang/String", "<init>", "([CIILjava/lang/Void;)V"⟩
abbrev yB : ByteArray := jdk_42_method_149_code
theorem d0 : decode yB 0 = .ok (.aload_n 0, 1) := by decide +kernel
theorem d1 : decode yB 1 = .ok (.invokespecial 1, 3) := by decide +kernel
theorem d4 : decode yB 4 = .ok (.iload_n 3, 1) := by decide +kernel
theorem d5 : decode yB 5 = .ok (.ifCond (.ne) 22, 3) := by decide +kernel
theorem d27 : decode yB 27 = .ok (.getstatic 38, 3) := by decide +kernel
theorem d30 : decode yB 30 = .ok (.ifCond (.eq) 28, 3) := by decide +kernel
theorem d33 : decode yB 33 = .ok (.aload_n 1, 1) := by decide +kernel
theorem d34 : decode yB 34 = .ok (.iload_n 2, 1) := by decide +kernel
theorem d35 : decode yB 35 = .ok (.iload_n 3, 1) := by decide +kernel
theorem d36 : decode yB 36 = .ok (.invokestatic 177, 3) := by decide +kernel
theorem d39 : decode yB 39 = .ok (.astore 5, 2) := by decide +kernel
theorem d41 : decode yB 41 = .ok (.aload_n 0, 1) := by decide +kernel
theorem d42 : decode yB 42 = .ok (.aload 5, 2) := by decide +kernel
theorem d44 : decode yB 44 = .ok (.iload_n 3, 1) := by decide +kernel
theorem d45 : decode yB 45 = .ok (.invokestatic 47, 3) := by decide +kernel
theorem d48 : decode yB 48 = .ok (.putfield 15, 3) := by decide +kernel
theorem d51 : decode yB 51 = .ok (.aload_n 0, 1) := by decide +kernel
theorem d52 : decode yB 52 = .ok (.aload 5, 2) := by decide +kernel
theorem d54 : decode yB 54 = .ok (.putfield 9, 3) := by decide +kernel
theorem d57 : decode yB 57 = .ok (.return_, 1) := by decide +kernel
def site : List Cond := [.fieldLink "java/lang/String" 38 "java/lang/String" "COMPACT_STRINGS" "Z", Cmp3.tab, CodL.tab, .laysFinal "java/lang/String" "java/lang/String" "value" "[B", .fieldLink "java/lang/String" 9 "java/lang/String" "value" "[B", .laysFinal "java/lang/String" "java/lang/String" "coder" "B", .fieldLink "java/lang/String" 15 "java/lang/String" "coder" "B"] ++ objW "java/lang/String" 1 ++ staticW "java/lang/String" 177 Cmp3.yN ++ staticW "java/lang/String" 47 CodL.yN
def tab : Cond := tabOf yN yB 6 none site
def P (a : Addr) (D : Cell) (fV fC : Field) (b : Addr) (A : Cell) (z : Int32) (o len : Nat) (args : Array Value) (s : State) : Prop := args = #[.ref a, .ref b, .int (Int32.ofNat o), .int (Int32.ofNat len), .null] ∧ Blank "java/lang/String" a D s ∧ Found "java/lang/String" "value" "[B" fV s ∧ Found "java/lang/String" "coder" "B" fC s ∧ Ch b A s ∧ StaticIs s "java/lang/String" "COMPACT_STRINGS" "Z" (.int z) ∧ ¬ z = 0 ∧ 0 < len ∧ o + len ≤ A.slots.size ∧ len ≤ 536870912 ∧ ∀ i, i < len → ¬ 255 < cv A (o + i)
def E (a : Addr) (D : Cell) (fV fC : Field) (A : Cell) (o len : Nat) (r : Option Value) (s u : State) : Prop := Got a D fV fC A o len r s u
/-- len > 0, no char of the range above 255: a Latin-1 String of their low bytes -/
theorem law (l : Launch) (a : Addr) (D : Cell) (fV fC : Field) (b : Addr) (A : Cell) (z : Int32) (o len : Nat) : Law l yN 5 4 2 35 yB 6 none site (P a D fV fC b A z o len) (E a D fV fC A o len) [⟨a, fC.slot⟩, ⟨a, fV.slot⟩] 1 len := by
  refine Law.of_walk (plainFor_of_name (by decide +kernel)) (by decide +kernel) (by decide +kernel) (by decide) (fun _ _ h => by rw [h.1]; rfl) (fun _ U U' hal hh h => ⟨h.1, h.2.1.mv hal hh, h.2.2.1.al hal, h.2.2.2.1.al hal, h.2.2.2.2.1.mv hal hh, h.2.2.2.2.2.1.there hal hh, h.2.2.2.2.2.2⟩) (fun r U U' V V' h1 hal h2 h => Got.mv r U U' V V' h1 hal h2 h) ?_
  intro p e s m args below meth c s₁ X0 hexec hbytes hml hret hlk hnm hown hh0 W hP
  obtain ⟨rfl, hB, f1, f2, hA, s1, hz, l0, l1, l2, hp⟩ := hP
  have a31 := hA.1.2.2.2
  have c1 : Steps p.tables e below (s₁.setTop (entryFrame m #[.ref a, .ref b, .int (Int32.ofNat o), .int (Int32.ofNat len), .null] 6)) (s₁.setTop (mkF m 0 #[.val (.ref a), .val (.ref b), .val (.int (Int32.ofNat o)), .val (.int (Int32.ofNat len)), .val .null, .unset] [])) := entry rfl
  have c2 : Steps p.tables e below (s₁.setTop (entryFrame m #[.ref a, .ref b, .int (Int32.ofNat o), .int (Int32.ofNat len), .null] 6)) (s₁.setTop (mkF m 1 #[.val (.ref a), .val (.ref b), .val (.int (Int32.ofNat o)), .val (.int (Int32.ofNat len)), .val .null, .unset] [.ref a])) := c1.trans (by
    refine XS.aloadN X0.here hexec rfl (hb hbytes d0) rfl rfl ?_
    exact Steps.refl _)
  obtain ⟨T3, X3, q3, st3⟩ := X0.oinit hexec hown (wks W (objW "java/lang/String" 1)) (g := (mkF m 1 #[.val (.ref a), .val (.ref b), .val (.int (Int32.ofNat o)), .val (.int (Int32.ofNat len)), .val .null, .unset] [.ref a])) rfl (by rw [hml]; rfl) (rest := []) rfl (hb hbytes d1) (W := 0) (by show 2 * 0 + 0 ≤ _; decide) (Nat.le_of_ble_eq_true rfl) (Nat.le_of_ble_eq_true rfl)
  have hh3 := q3.trans hh0
  have c4 : Steps p.tables e below (s₁.setTop (entryFrame m #[.ref a, .ref b, .int (Int32.ofNat o), .int (Int32.ofNat len), .null] 6)) (T3.setTop (mkF m 27 #[.val (.ref a), .val (.ref b), .val (.int (Int32.ofNat o)), .val (.int (Int32.ofNat len)), .val .null, .unset] [])) := (c2.trans (st3 _ (Steps.refl _))).trans (by
    refine XS.iloadN X3.here hexec rfl (hb hbytes d4) rfl ?_
    refine XS.ifYes X3.here hexec rfl (pc0 := 5) rfl (hb hbytes d5) rfl (i0_ne_t (nz32 (by omega) l0)) (by decide) rfl ?_
    exact Steps.refl _)
  obtain ⟨T5, X5, q5, st5⟩ := X3.sget hexec hown (wk W (.fieldLink "java/lang/String" 38 "java/lang/String" "COMPACT_STRINGS" "Z")) s1 (fun _ _ h => by rw [hh3]; exact h) (g := (mkF m 27 #[.val (.ref a), .val (.ref b), .val (.int (Int32.ofNat o)), .val (.int (Int32.ofNat len)), .val .null, .unset] [])) rfl (hb hbytes d27)
  have hh5 := q5.trans hh3
  have c6 : Steps p.tables e below (s₁.setTop (entryFrame m #[.ref a, .ref b, .int (Int32.ofNat o), .int (Int32.ofNat len), .null] 6)) (T5.setTop (mkF m 30 #[.val (.ref a), .val (.ref b), .val (.int (Int32.ofNat o)), .val (.int (Int32.ofNat len)), .val .null, .unset] [.int z])) := c4.trans (st5 _ (Steps.refl _))
  have c7 : Steps p.tables e below (s₁.setTop (entryFrame m #[.ref a, .ref b, .int (Int32.ofNat o), .int (Int32.ofNat len), .null] 6)) (T5.setTop (mkF m 36 #[.val (.ref a), .val (.ref b), .val (.int (Int32.ofNat o)), .val (.int (Int32.ofNat len)), .val .null, .unset] [.int (Int32.ofNat len), .int (Int32.ofNat o), .ref b])) := c6.trans (by
    refine XS.ifNo X5.here hexec rfl (hb hbytes d30) rfl (i0_eq_f hz) ?_
    refine XS.aloadN X5.here hexec rfl (hb hbytes d33) rfl rfl ?_
    refine XS.iloadN X5.here hexec rfl (hb hbytes d34) rfl ?_
    refine XS.iloadN X5.here hexec rfl (hb hbytes d35) rfl ?_
    exact Steps.refl _)
  obtain ⟨v8, T8, X8, E8, g8⟩ := X5.callS hexec (Cmp3.law l b A o len) hown (wks W (staticW "java/lang/String" 177 Cmp3.yN)) (wk W Cmp3.tab) (W := 0) (Nat.le_of_ble_eq_true rfl) (Nat.le_of_ble_eq_true rfl) (Nat.le_refl _) (by show 0 + len ≤ len; omega) (g := (mkF m 36 #[.val (.ref a), .val (.ref b), .val (.int (Int32.ofNat o)), .val (.int (Int32.ofNat len)), .val .null, .unset] [.int (Int32.ofNat len), .int (Int32.ofNat o), .ref b])) rfl (by rw [hml]; rfl) c7 (argsL := [.ref b, .int (Int32.ofNat o), .int (Int32.ofNat len)]) (rest := []) rfl rfl (by show 2 * 0 + 0 ≤ _; decide) (hb hbytes d36) (⟨rfl, hA.mv X5.warmed.alike hh5, l1, l2, hp⟩)
  obtain ⟨e8, z8⟩ := E8
  obtain ⟨rfl, N, n1, n2, n3, n4, n5, n6⟩ := NewArr.mv _ T5 s _ _ hh5.symm (Vm.Alike.refl _) rfl e8
  rw [hh5] at z8
  have hB1 := hB.keep X8.warmed.alike (n6 _ _ hB.1)
  have hne : s.heap.size ≠ a := (Nat.ne_of_lt (Array.getElem?_eq_some_iff.mp hB.1).1).symm
  have c9 : Steps p.tables e below (s₁.setTop (entryFrame m #[.ref a, .ref b, .int (Int32.ofNat o), .int (Int32.ofNat len), .null] 6)) (T8.setTop (mkF m 39 #[.val (.ref a), .val (.ref b), .val (.int (Int32.ofNat o)), .val (.int (Int32.ofNat len)), .val .null, .unset] [.ref s.heap.size])) := g8
  have c10 : Steps p.tables e below (s₁.setTop (entryFrame m #[.ref a, .ref b, .int (Int32.ofNat o), .int (Int32.ofNat len), .null] 6)) (T8.setTop (mkF m 45 #[.val (.ref a), .val (.ref b), .val (.int (Int32.ofNat o)), .val (.int (Int32.ofNat len)), .val .null, .val (.ref s.heap.size)] [.int (Int32.ofNat N.slots.size), .ref s.heap.size, .ref a])) := by
    have hc : Steps p.tables e below (s₁.setTop (entryFrame m #[.ref a, .ref b, .int (Int32.ofNat o), .int (Int32.ofNat len), .null] 6)) (T8.setTop (mkF m 45 #[.val (.ref a), .val (.ref b), .val (.int (Int32.ofNat o)), .val (.int (Int32.ofNat len)), .val .null, .val (.ref s.heap.size)] [.int (Int32.ofNat len), .ref s.heap.size, .ref a])) := c9.trans (by
      refine XS.astore X8.here hexec rfl (hb hbytes d39) rfl rfl rfl ?_
      refine XS.aloadN X8.here hexec rfl (hb hbytes d41) rfl rfl ?_
      refine XS.aload X8.here hexec rfl (hb hbytes d42) rfl rfl ?_
      refine XS.iloadN X8.here hexec rfl (hb hbytes d44) rfl ?_
      exact Steps.refl _)
    rw [n4]; exact hc
  obtain ⟨v11, T11, X11, E11, g11⟩ := X8.callS hexec (CodL.law l s.heap.size N) hown (wks W (staticW "java/lang/String" 47 CodL.yN)) (wk W CodL.tab) (W := 1) (Nat.le_of_ble_eq_true rfl) (Nat.le_of_ble_eq_true rfl) (Nat.le_refl _) (by show 0 + len + 0 ≤ len; omega) (g := (mkF m 45 #[.val (.ref a), .val (.ref b), .val (.int (Int32.ofNat o)), .val (.int (Int32.ofNat len)), .val .null, .val (.ref s.heap.size)] [.int (Int32.ofNat N.slots.size), .ref s.heap.size, .ref a])) rfl (by rw [hml]; rfl) c10 (argsL := [.ref s.heap.size, .int (Int32.ofNat N.slots.size)]) (rest := [.ref a]) rfl rfl (by show 2 * 0 + (1 + 0) ≤ _; decide) (hb hbytes d45) (⟨rfl, n1⟩)
  obtain ⟨rfl, q11⟩ := E11
  have hB11 := hB1.mv (X8.warmed.alike.symm.trans X11.warmed.alike) q11
  have c12 : Steps p.tables e below (s₁.setTop (entryFrame m #[.ref a, .ref b, .int (Int32.ofNat o), .int (Int32.ofNat len), .null] 6)) (T11.setTop (mkF m 48 #[.val (.ref a), .val (.ref b), .val (.int (Int32.ofNat o)), .val (.int (Int32.ofNat len)), .val .null, .val (.ref s.heap.size)] [.int 0, .ref a])) := g11
  obtain ⟨T13, X13, p13, bl13, sl13, st13⟩ := X11.finit hexec hown (wk W (.fieldLink "java/lang/String" 15 "java/lang/String" "coder" "B")) (Or.inr ⟨_, (wk W (.laysFinal "java/lang/String" "java/lang/String" "coder" "B"))⟩) (Or.inl ⟨rfl, hnm⟩) f2 (Or.inl rfl) hB11 (t := .byte) (by decide +kernel) rfl (g := (mkF m 48 #[.val (.ref a), .val (.ref b), .val (.int (Int32.ofNat o)), .val (.int (Int32.ofNat len)), .val .null, .val (.ref s.heap.size)] [.int 0, .ref a])) rfl (rest := []) rfl (hb hbytes d48)
  have c14 : Steps p.tables e below (s₁.setTop (entryFrame m #[.ref a, .ref b, .int (Int32.ofNat o), .int (Int32.ofNat len), .null] 6)) (T13.setTop (mkF m 54 #[.val (.ref a), .val (.ref b), .val (.int (Int32.ofNat o)), .val (.int (Int32.ofNat len)), .val .null, .val (.ref s.heap.size)] [.ref s.heap.size, .ref a])) := (c12.trans (st13 _ (Steps.refl _))).trans (by
    refine XS.aloadN X13.here hexec rfl (hb hbytes d51) rfl rfl ?_
    refine XS.aload X13.here hexec rfl (hb hbytes d52) rfl rfl ?_
    exact Steps.refl _)
  obtain ⟨T15, X15, p15, bl15, sl15, st15⟩ := X13.finit hexec hown (wk W (.fieldLink "java/lang/String" 9 "java/lang/String" "value" "[B")) (Or.inr ⟨_, (wk W (.laysFinal "java/lang/String" "java/lang/String" "value" "[B"))⟩) (Or.inl ⟨rfl, hnm⟩) f1 (Or.inl rfl) bl13 (t := (.array .byte)) (by decide +kernel) rfl (g := (mkF m 54 #[.val (.ref a), .val (.ref b), .val (.int (Int32.ofNat o)), .val (.int (Int32.ofNat len)), .val .null, .val (.ref s.heap.size)] [.ref s.heap.size, .ref a])) rfl (rest := []) rfl (hb hbytes d54)
  have c16 : Steps p.tables e below (s₁.setTop (entryFrame m #[.ref a, .ref b, .int (Int32.ofNat o), .int (Int32.ofNat len), .null] 6)) (T15.setTop (mkF m 57 #[.val (.ref a), .val (.ref b), .val (.int (Int32.ofNat o)), .val (.int (Int32.ofNat len)), .val .null, .val (.ref s.heap.size)] [])) := c14.trans (st15 _ (Steps.refl _))
  have ap := apart (Or.inr ⟨_, (wk W (.laysFinal "java/lang/String" "java/lang/String" "value" "[B"))⟩) (Or.inr ⟨_, (wk W (.laysFinal "java/lang/String" "java/lang/String" "coder" "B"))⟩) f1 f2 (t₁ := .array .byte) (t₂ := .byte) (by decide +kernel) (by decide +kernel) (by decide)
  have al := X8.warmed.alike.symm.trans X15.warmed.alike
  have n7 : T11.heap[s.heap.size]? = some N := by rw [q11]; exact n1.1
  exact ⟨T15, none, _, _, _, X15, by simp, rfl, by omega, (fun _ => rfl), ⟨rfl, _, N, bl15, ((Same.refl D _).set _ (by simp)).set _ (by simp), sl15, (Cell.slots_setSlot_ne _ ap).trans sl13, n1.keep al (p15.other hne (p13.other hne n7)), n2, by rw [al.findClass]; exact n3, n4, n5, fun y c h1 h2 => p15.other h1 (p13.other h1 (by rw [q11]; exact n6 y c h2)), by rw [p15.2.2, p13.2.2, q11]; exact z8⟩, fun fs hl => c16.trans (X15.returnOut hexec hret (hb hbytes d57) hl)⟩
end New4
namespace New1
def yN : MethodName := ⟨"java/lang/String", "<init>", "([C)V"⟩
abbrev yB : ByteArray := jdk_42_method_3_code
theorem d0 : decode yB 0 = .ok (.aload_n 0, 1) := by decide +kernel
theorem d1 : decode yB 1 = .ok (.aload_n 1, 1) := by decide +kernel
theorem d2 : decode yB 2 = .ok (.iconst 0, 1) := by decide +kernel
theorem d3 : decode yB 3 = .ok (.aload_n 1, 1) := by decide +kernel
theorem d4 : decode yB 4 = .ok (.arraylength, 1) := by decide +kernel
theorem d5 : decode yB 5 = .ok (.aconst_null, 1) := by decide +kernel
theorem d6 : decode yB 6 = .ok (.invokespecial 27, 3) := by decide +kernel
theorem d9 : decode yB 9 = .ok (.return_, 1) := by decide +kernel
def site : List Cond := [New4.tab] ++ initW "java/lang/String" 27 New4.yN
def tab : Cond := tabOf yN yB 2 none site
def P (a : Addr) (D : Cell) (fV fC : Field) (b : Addr) (A : Cell) (z : Int32) (args : Array Value) (s : State) : Prop := args = #[.ref a, .ref b] ∧ Blank "java/lang/String" a D s ∧ Found "java/lang/String" "value" "[B" fV s ∧ Found "java/lang/String" "coder" "B" fC s ∧ Ch b A s ∧ StaticIs s "java/lang/String" "COMPACT_STRINGS" "Z" (.int z) ∧ ¬ z = 0 ∧ 0 < A.slots.size ∧ A.slots.size ≤ 536870912 ∧ ∀ i, i < A.slots.size → ¬ 255 < cv A i
def E (a : Addr) (D : Cell) (fV fC : Field) (A : Cell) (r : Option Value) (s u : State) : Prop := Got a D fV fC A 0 A.slots.size r s u
/-- new String(chars), not empty, no char above 255: a Latin-1 String of their low bytes -/
theorem law (l : Launch) (a : Addr) (D : Cell) (fV fC : Field) (b : Addr) (A : Cell) (z : Int32) : Law l yN 2 1 3 52 yB 2 none site (P a D fV fC b A z) (E a D fV fC A) [⟨a, fC.slot⟩, ⟨a, fV.slot⟩] 1 A.slots.size := by
  refine Law.of_walk (plainFor_of_name (by decide +kernel)) (by decide +kernel) (by decide +kernel) (by decide) (fun _ _ h => by rw [h.1]; rfl) (fun _ U U' hal hh h => ⟨h.1, h.2.1.mv hal hh, h.2.2.1.al hal, h.2.2.2.1.al hal, h.2.2.2.2.1.mv hal hh, h.2.2.2.2.2.1.there hal hh, h.2.2.2.2.2.2⟩) (fun r U U' V V' h1 hal h2 h => Got.mv r U U' V V' h1 hal h2 h) ?_
  intro p e s m args below meth c s₁ X0 hexec hbytes hml hret hlk hnm hown hh0 W hP
  obtain ⟨rfl, hB, f1, f2, hA, s1, hz, l0, l2, hp⟩ := hP
  have c1 : Steps p.tables e below (s₁.setTop (entryFrame m #[.ref a, .ref b] 2)) (s₁.setTop (mkF m 0 #[.val (.ref a), .val (.ref b)] [])) := entry rfl
  have c2 : Steps p.tables e below (s₁.setTop (entryFrame m #[.ref a, .ref b] 2)) (s₁.setTop (mkF m 6 #[.val (.ref a), .val (.ref b)] [.null, .int (Int32.ofNat A.slots.size), .int 0, .ref b, .ref a])) := c1.trans (by
    refine XS.aloadN X0.here hexec rfl (hb hbytes d0) rfl rfl ?_
    refine XS.aloadN X0.here hexec rfl (hb hbytes d1) rfl rfl ?_
    refine iconstV X0.here hexec rfl 0 (hb hbytes d2) (by decide) ?_
    refine XS.aloadN X0.here hexec rfl (hb hbytes d3) rfl rfl ?_
    refine X0.alen hexec (hA.1.mv X0.warmed.alike hh0) rfl rfl (hb hbytes d4) ?_
    refine XS.aconstNull X0.here hexec rfl (hb hbytes d5) ?_
    exact Steps.refl _)
  obtain ⟨v3, T3, X3, E3, g3⟩ := X0.callN hexec (New4.law l a D fV fC b A z 0 A.slots.size) rfl hown (wks W (initW "java/lang/String" 27 New4.yN)) (W New4.tab (by simp only [site, List.mem_cons, List.mem_append, true_or, or_true])) (W := 0) (Nat.le_of_ble_eq_true rfl) (Nat.le_of_ble_eq_true rfl) (Nat.le_refl _) (by show 0 + A.slots.size ≤ A.slots.size; omega) (g := (mkF m 6 #[.val (.ref a), .val (.ref b)] [.null, .int (Int32.ofNat A.slots.size), .int (Int32.ofNat 0), .ref b, .ref a])) rfl (by rw [hml]; rfl) c2 (argsL := [.ref b, .int (Int32.ofNat 0), .int (Int32.ofNat A.slots.size), .null]) (rest := []) rfl rfl (by show 2 * 0 + 0 ≤ _; decide) (hb hbytes d6) (⟨rfl, hB.mv X0.warmed.alike hh0, f1.al X0.warmed.alike, f2.al X0.warmed.alike, hA.mv X0.warmed.alike hh0, s1.there X0.warmed.alike hh0, hz, l0, by omega, l2, fun i hi => by rw [Nat.zero_add]; exact hp i hi⟩)
  have e0 := Got.mv _ s₁ s _ _ hh0.symm (Vm.Alike.refl _) rfl E3
  obtain rfl := e0.1
  have c4 : Steps p.tables e below (s₁.setTop (entryFrame m #[.ref a, .ref b] 2)) (T3.setTop (mkF m 9 #[.val (.ref a), .val (.ref b)] [])) := g3
  exact ⟨T3, none, _, _, _, X3, by simp, rfl, by omega, (fun _ => rfl), e0, fun fs hl => c4.trans (X3.returnOut hexec hret (hb hbytes d9) hl)⟩
theorem pays {l : Launch} {R : Room} {p : Program} {e : Env} {below : List Frame} {s : State} {sargs : Array Value} {len W : Nat} (a : Addr) (D : Cell) (fV fC : Field) (b : Addr) (A : Cell) (z : Int32) (htab : tab.before sargs s = true) (hfr : 4 ≤ R.frames) (hlo : W + 65 ≤ R.locals) :
    Back l R p e below s sargs yN len W (fun A₁ a₁ => A₁.cells + 1 ≤ R.cells ∧ A₁.slots + A.slots.size ≤ R.slots ∧ P a D fV fC b A z a₁ A₁.U) (fun A₁ _ v₁ B₁ => E a D fV fC A v₁ A₁.U B₁.U ∧ B₁.locs = A₁.locs ++ [⟨a, fC.slot⟩, ⟨a, fV.slot⟩] ∧ B₁.cells = A₁.cells + 1 ∧ B₁.slots = A₁.slots + A.slots.size) :=
  (law l a D fV fC b A z).pays htab hfr (by omega)
end New1
/-- the byte, read back as charAt reads it, is the char -/
theorem lo8_mask {x : Int32} (h0 : ¬ x < 0) (h1 : ¬ 255 < x) : lo8 x &&& 255 = x := by
  have t : ∀ k : Fin 256, lo8 (Int32.ofNat k.val) &&& 255 = Int32.ofNat k.val := by decide +kernel
  rw [Int32.lt_iff_toInt_lt] at h0 h1
  have e0 : (0 : Int32).toInt = 0 := rfl
  have e1 : (255 : Int32).toInt = 255 := rfl
  obtain ⟨k, hk⟩ : ∃ k : Nat, x.toInt = k := ⟨x.toInt.toNat, by omega⟩
  have hx : x = Int32.ofNat k := Int32.toInt_inj.mp (by rw [hk, Int32.toInt_ofNat_small (by omega)])
  rw [hx]
  exact t ⟨k, by omega⟩
end StrChars
namespace StrChars.Road
open Jvm Sem ClassFile Op Lib Jvm.Stand Jvm.Free Jvm.Free.XT
open Jvm.Lib.Cold (StaticIs)
abbrev ST : String := "java/lang/String"
/-- every table word that New1's law asks, flat -/
abbrev words : List Jvm.Cond := [.code New1.yN New1.yB 2 none, .initialized ST, .methodLink ST 27 New4.yN, .instanceMethod New4.yN,
  .code New4.yN New4.yB 6 none, .fieldLink ST 38 ST "COMPACT_STRINGS" "Z", .laysFinal ST ST "value" "[B", .fieldLink ST 9 ST "value" "[B", .laysFinal ST ST "coder" "B", .fieldLink ST 15 ST "coder" "B",
  .methodLink ST 1 Lib.objectInit, .instanceMethod Lib.objectInit, .code Lib.objectInit ⟨#[0xb1]⟩ 1 none, .methodLink ST 177 Cmp3.yN, .static Cmp3.yN, .methodLink ST 47 CodL.yN, .static CodL.yN,
  .code Cmp3.yN Cmp3.yB 6 (some (.array .byte)), .initialized U16, .arrayClass .byte, .methodLink U16 115 Cmp5.yN, .static Cmp5.yN, .code Cmp5.yN Cmp5.yB 7 (some .int), .code CodL.yN CodL.yB 2 (some .byte)]
theorem tab_of {a : Array Value} {s : State} (h : ∀ w ∈ words, w.before a s = true) : New1.tab.before a s = true := by
  have h5 : Cmp5.tab.before a s = true := unparts (wk h (.code Cmp5.yN Cmp5.yB 7 (some .int))) (wks h (.initialized Cmp5.yN.cls :: Cmp5.site))
  have hc : CodL.tab.before a s = true := unparts (wk h (.code CodL.yN CodL.yB 2 (some .byte))) (wks h (.initialized CodL.yN.cls :: CodL.site))
  have q5 : ∀ w ∈ Cmp5.tab :: words, w.before a s = true := fun w hw => (List.mem_cons.mp hw).elim (fun e => e ▸ h5) (h w)
  have h3 : Cmp3.tab.before a s = true := unparts (wk q5 (.code Cmp3.yN Cmp3.yB 6 (some (.array .byte)))) (wks q5 (.initialized Cmp3.yN.cls :: Cmp3.site))
  have q3 : ∀ w ∈ Cmp3.tab :: CodL.tab :: words, w.before a s = true := fun w hw => (List.mem_cons.mp hw).elim (fun e => e ▸ h3) fun hw => (List.mem_cons.mp hw).elim (fun e => e ▸ hc) (h w)
  have h4 : New4.tab.before a s = true := unparts (wk q3 (.code New4.yN New4.yB 6 none)) (wks q3 (.initialized New4.yN.cls :: New4.site))
  have q4 : ∀ w ∈ New4.tab :: words, w.before a s = true := fun w hw => (List.mem_cons.mp hw).elim (fun e => e ▸ h4) (h w)
  exact unparts (wk q4 (.code New1.yN New1.yB 2 none)) (wks q4 (.initialized New1.yN.cls :: New1.site))
/-- the words ride from the start Z to the walk's own state -/
theorem moved {Z s : State} {a0 args : Array Value} (hZ : Z.Warmed39 s.vm) (hw : ∀ d ∈ words, d.before a0 Z = true) : ∀ d ∈ words, d.before args s = true := fun d hd => by
  have q := hw d hd
  have t : ∀ d ∈ words, d = .arrayClass .byte ∨ (d.onTables && d.keepsFace) = true := by decide +kernel
  rcases t d hd with rfl | t
  · exact RoadKit.mvA hZ q
  · exact RoadKit.mv hZ q t
/-- WHAT COMES BACK, over the tables of the start Z: h the heap at the call, h' behind it -/
def Q (Z : State) (x : Addr) (A : Cell) (h : Heap) (v : Option Value) (h' : Heap) (L : List Loc) : Prop := v = none ∧ (∀ y ∈ L, y.base = x) ∧ RoadKit.Keep h h' [x] ∧ h'.size = h.size + 1 ∧ RoadKit.Exa Z h' x ST ∧ RoadKit.Fld Z h' x ST "value" "[B" (.ref h.size) ∧ RoadKit.Fld Z h' x ST "coder" "B" (.int 0) ∧
  (∃ V : Cell, RoadKit.Arr Z h' h.size V .byte ∧ V.vm = .none ∧ Z.vm.findClass "[B" = some V.cls ∧ V.slots.size = A.slots.size ∧ ∀ j, j < A.slots.size → V.slots[j]? = some (.int (lo8 (cv A j)))) ∧
  ∀ (O n d : String) (w : Value), RoadKit.Fld Z h x O n d w → RoadKit.slotOf Z O n d ≠ RoadKit.slotOf Z ST "value" "[B" → RoadKit.slotOf Z O n d ≠ RoadKit.slotOf Z ST "coder" "B" → RoadKit.Fld Z h' x O n d w
/-- **new String(chars) AT A CALL, IN THE ROAD'S FORM**: for specialBack behind newO: x the fresh String, b the char[] with the cell A -/
theorem back {p : Program} {l : Launch} {e : Env} {R : Room} {s : State} {args : Array Value} {below : List Frame} {len W : Nat} {Z : State} {a0 : Array Value} {h : Heap} (hZ : Z.Warmed39 s.vm) (hw : ∀ d ∈ words, d.before a0 Z = true) {kI : Nat} (wi : (Jvm.Cond.instantiable ST kI).before a0 Z = true)
    {x b : Addr} {A : Cell} {z : Int32} {v0 c0 : Value} (E : RoadKit.Exa Z h x ST) (V : RoadKit.Fld Z h x ST "value" "[B" v0) (C : RoadKit.Fld Z h x ST "coder" "B" c0) (K : RoadKit.Arr Z h b A .char) (hty : Typed .char A) (S : RoadKit.Sta Z h ST "COMPACT_STRINGS" "Z" (.int z)) (hz : ¬ z = 0)
    (l0 : 0 < A.slots.size) (l2 : A.slots.size ≤ 536870912) (hp : ∀ i, i < A.slots.size → ¬ 255 < cv A i) (hfr : 4 ≤ R.frames) (hlo : W + 65 ≤ R.locals) :
    Back l R p e below s args New1.yN len W (fun P a => a = #[.ref x, .ref b] ∧ P.U.heap = h ∧ P.cells + 1 ≤ R.cells ∧ P.slots + A.slots.size ≤ R.slots)
      (fun P _ v B => ∃ L, Q Z x A h v B.U.heap L ∧ B.locs = P.locs ++ L ∧ B.cells = P.cells + 1 ∧ B.slots = P.slots + A.slots.size) := by
  intro m meth c P g ig mk a X hg hsize hdg hW hn hp'
  obtain ⟨rfl, rfl, r1, r2⟩ := hp'
  have al : Z.vm.Alike P.U.vm := hZ.alike.trans X.warmed.alike
  obtain ⟨D, cfV, kV, iV, fV, hD, gV, stV, knV, obV, asV, slV⟩ := id V
  obtain ⟨D', cfC, kC, iC, fC, hD', gC, stC, -, -, asC, slC⟩ := id C
  cases hD.symm.trans hD'
  obtain ⟨D2, kD, e1, e2, e3, e4, e5⟩ := id E
  cases hD.symm.trans e1
  obtain ⟨c2, k2, i1, i2, i3, -⟩ := Cond.instantiable_spec wi
  cases e2.symm.trans i1
  cases e3.symm.trans i2
  obtain ⟨kU, u1, u2⟩ := al.2.2 _ _ e3
  have hB : Blank ST x D P.U := ⟨hD, ⟨knV, fun q hq => by rw [hq] at obV; cases obV⟩, by rw [al.findClass]; exact e2, kU, u1, by rw [u2]; exact i3, by rw [u2]; exact e5 i3⟩
  have F1 : Found ST "value" "[B" fV P.U := ⟨SBG.found_only al ⟨cfV, kV, iV, gV⟩, stV⟩
  have F2 : Found ST "coder" "B" fC P.U := ⟨SBG.found_only al ⟨cfC, kC, iC, gC⟩, stC⟩
  have hA : Ch b A P.U := ⟨⟨K.1, State.isArrayOf_alike al K.2.1, K.2.2, by omega⟩, hty⟩
  have hS : StaticIs P.U ST "COMPACT_STRINGS" "Z" (.int z) := by
    obtain ⟨cfS, iS, kS, fS, st, cS, t1, t2, t3, t4, t5, t6, t7⟩ := S
    exact StaticIs.there (s := { Z with heap := P.U.heap }) ⟨cfS, iS, kS, fS, st, cS, t1, t2, t3, t4, t5, (fun q => by rw [q] at t6; cases t6), t7⟩ al rfl
  obtain ⟨v, B, X', ⟨⟨hv, E', V', q1, q2, q3, q4, q5, q6, q7, q8, q9, q10, q11⟩, hl, hc, hs⟩, st⟩ := New1.pays x D fV fC b A z (tab_of (moved hZ hw)) hfr hlo m meth c P g ig mk _ X hg hsize hdg hW hn ⟨r1, r2, rfl, hB, F1, F2, hA, hS, hz, l0, l2, hp⟩
  have al' : Z.vm.Alike B.U.vm := hZ.alike.trans X'.warmed.alike
  have hsz : E'.slots.size = D.slots.size := by
    obtain ⟨-, -, -, kB, w1, w2, w3⟩ := q1
    obtain ⟨kB', y1, y2⟩ := al'.2.2 _ _ e3
    rw [q2.2.1] at w1
    cases w1.symm.trans y1
    rw [w3, e5 i3, y2]
  refine ⟨v, B, X', ⟨_, ⟨hv, ?_, ⟨by omega, fun y cy hy hn' => q10 y cy (by simpa using hn') hy, fun y cy hy => ?_⟩, q11, ⟨E', _, q1.1, by rw [q2.2.1]; exact e2, by rw [q2.2.1]; exact e3, by rw [q2.1]; exact obV, fun _ => by rw [hsz]; exact e5 i3⟩,
    ⟨E', cfV, kV, iV, fV, q1.1, gV, stV, by rw [q2.1]; exact knV, by rw [q2.1]; exact obV, by rw [q2.2.1]; exact asV, q3⟩, ⟨E', cfC, kC, iC, fC, q1.1, gC, stC, by rw [q2.1]; exact knV, by rw [q2.1]; exact obV, by rw [q2.2.1]; exact asC, q4⟩,
    ⟨V', ⟨q5.1, State.isArrayOf_alike al'.symm q5.2.1, q5.2.2.1⟩, q6, by rw [← al'.findClass]; exact q7, q8, fun j hj => by have := q9 j hj; rwa [Nat.zero_add] at this⟩, fun O n d w F n1 n2 => ?_⟩, hl, hc, hs⟩, st⟩
  · intro y hy
    simp only [List.mem_cons, List.not_mem_nil, or_false] at hy
    rcases hy with rfl | rfl <;> rfl
  · by_cases q : y = x
    · subst q
      cases hD.symm.trans hy
      exact ⟨E', q1.1, q2.2.1, q2.1, hsz⟩
    · exact ⟨cy, q10 y cy q hy, rfl, rfl, rfl⟩
  · obtain ⟨D3, cf, k, i, f, g1, g2, g3, g4, g5, g6, g7⟩ := F
    cases hD.symm.trans g1
    simp only [RoadKit.slotOf, g2, gV, gC, Option.map_some, Option.getD_some] at n1 n2
    exact ⟨E', cf, k, i, f, q1.1, g2, g3, by rw [q2.1]; exact g4, by rw [q2.1]; exact g5, by rw [q2.2.1]; exact g6, by rw [q2.2.2 f.slot (by simp [n1, n2])]; exact g7⟩
end StrChars.Road
namespace StrChars.Road
open Jvm Sem ClassFile Op Lib Jvm.Stand Jvm.Free Jvm.Free.XT
/-- WHAT COMES BACK, the byte[] as a list of values -/
def QA (Z : State) (x : Addr) (zn : Int32) (cs : List Int32) (h : Heap) (v : Option Value) (h' : Heap) (L : List Loc) : Prop := v = none ∧ (∀ y ∈ L, y.base = x) ∧ RoadKit.Keep h h' [x] ∧ h'.size = h.size + 1 ∧ RoadKit.Exa Z h' x ST ∧ RoadKit.Fld Z h' x ST "value" "[B" (.ref h.size) ∧ RoadKit.Fld Z h' x ST "coder" "B" (.int 0) ∧
  (∃ kb, Z.vm.findClass "[B" = some kb ∧ RoadKit.Arv Z h' h.size kb .byte zn (cs.map fun c => .int (lo8 c)) (.int 0)) ∧
  ∀ (O n d : String) (w : Value), RoadKit.Fld Z h x O n d w → RoadKit.slotOf Z O n d ≠ RoadKit.slotOf Z ST "value" "[B" → RoadKit.slotOf Z O n d ≠ RoadKit.slotOf Z ST "coder" "B" → RoadKit.Fld Z h' x O n d w
/-- **new String(chars) AT A CALL, THE ARRAYS AS LISTS**: the char[] at b holds cs, not empty, no char above 255 -/
theorem backArv {p : Program} {l : Launch} {e : Env} {R : Room} {s : State} {args : Array Value} {below : List Frame} {len W : Nat} {Z : State} {a0 : Array Value} {h : Heap} (hZ : Z.Warmed39 s.vm) (hw : ∀ d ∈ words, d.before a0 Z = true) {kI : Nat} (wi : (Jvm.Cond.instantiable ST kI).before a0 Z = true)
    {x b : Addr} {k : ClassId} {zn z : Int32} {cs : List Int32} {dv v0 c0 : Value} (E : RoadKit.Exa Z h x ST) (V : RoadKit.Fld Z h x ST "value" "[B" v0) (C : RoadKit.Fld Z h x ST "coder" "B" c0) (K : RoadKit.Arv Z h b k .char zn (cs.map Value.int) dv) (S : RoadKit.Sta Z h ST "COMPACT_STRINGS" "Z" (.int z)) (hz : ¬ z = 0)
    (hlen : zn.toNatClampNeg = cs.length) (h0 : 0 < cs.length) (hbig : cs.length ≤ 536870912) (hall : ∀ c ∈ cs, ¬ 255 < c) (hfr : 4 ≤ R.frames) (hlo : W + 65 ≤ R.locals) :
    Back l R p e below s args New1.yN len W (fun P a => a = #[.ref x, .ref b] ∧ P.U.heap = h ∧ P.cells + 1 ≤ R.cells ∧ P.slots + cs.length ≤ R.slots)
      (fun P _ v B => ∃ L, QA Z x zn cs h v B.U.heap L ∧ B.locs = P.locs ++ L ∧ B.cells = P.cells + 1 ∧ B.slots = P.slots + cs.length) := by
  obtain ⟨A, K1, K2, K3, K4, K5, K6⟩ := K
  have e : A.slots.size = cs.length := K3.trans hlen
  have hat : ∀ (i : Nat) (hi : i < cs.length), A.slots[i]? = some (.int cs[i]) := fun i hi => by rw [K5 i (by omega)]; simp [List.getD_eq_getElem?_getD, hi]
  have hcv : ∀ (i : Nat) (hi : i < cs.length), cv A i = cs[i] := fun i hi => by unfold cv; rw [hat i hi]
  have hty : Typed .char A := fun i v hv => by
    have hi : i < A.slots.size := (Array.getElem?_eq_some_iff.mp hv).1
    have q := K5 i hi
    rw [hv] at q
    rw [Option.some.inj q]
    exact K6 i hi
  refine Back.mono (back hZ hw wi E V C K1 hty S hz (by omega) (by omega) (fun i hi => by rw [hcv i (by omega)]; exact hall _ (List.getElem_mem _)) hfr hlo) (fun P a hp => ⟨hp.1, hp.2.1, hp.2.2.1, by rw [e]; exact hp.2.2.2⟩) (fun P a v B hp hq => ?_)
  obtain ⟨L, ⟨q1, q2, q3, q4, q5, q6, q7, ⟨V', v1, v2, v3, v4, v5⟩, q9⟩, hl, hc, hs⟩ := hq
  refine ⟨L, ⟨q1, q2, q3, q4, q5, q6, q7, ⟨V'.cls, v3, V', v1, rfl, by rw [v4, e, hlen], K4, fun i hi => ?_, fun i hi => ?_⟩, q9⟩, hl, hc, by rw [hs, e]⟩
  · have hi' : i < cs.length := by omega
    rw [v5 i (by omega), hcv i hi']; simp [List.getD_eq_getElem?_getD, hi']
  · have hi' : i < cs.length := by omega
    simp only [List.getD_eq_getElem?_getD, List.getElem?_map, List.getElem?_eq_getElem hi', Option.map_some, Option.getD_some]
    exact fits_lo8 _
end StrChars.Road
namespace StrChars.Road
open Jvm Sem ClassFile Op Lib Jvm.Stand Jvm.Free Jvm.Free.XT
/-- WHAT COMES BACK, in the writer's own shape -/
def QV (Z : State) (x : Addr) (N : Int32) (bs : List Int32) (h : Heap) (n0 : Nat) (v : Option Value) (h' : Heap) (L : List Loc) : Prop := v = none ∧ RoadKit.Fr n0 L ∧ RoadKit.Keep h h' [x] ∧ RoadKit.Exa Z h' x ST ∧ RoadKit.Fld Z h' x ST "coder" "B" (.int 0) ∧
  ∃ (t : Addr) (kb : ClassId), n0 ≤ t ∧ h.size ≤ t ∧ ¬ t = x ∧ RoadKit.Fld Z h' x ST "value" "[B" (.ref t) ∧ RoadKit.Arv Z h' t kb .byte N (bs.map Value.int) (.int 0)
/-- **new String(chars) AT A CALL, FOR THE WRITER**: a char[] of n known ints, each 0 to 255 -/
theorem backV {p : Program} {l : Launch} {e : Env} {R : Room} {s : State} {args : Array Value} {below : List Frame} {len W : Nat} {Z : State} {a0 : Array Value} {h : Heap} (hZ : Z.Warmed39 s.vm) (hw : ∀ d ∈ words, d.before a0 Z = true) {kI : Nat} (wi : (Jvm.Cond.instantiable ST kI).before a0 Z = true)
    {x b : Addr} {kC : ClassId} {cs bs : List Int32} {d v0 c0 : Value} {z N : Int32} {n n0 : Nat} (hx0 : n0 ≤ x) (hh0 : n0 ≤ h.size) (E : RoadKit.Exa Z h x ST) (V : RoadKit.Fld Z h x ST "value" "[B" v0) (C : RoadKit.Fld Z h x ST "coder" "B" c0) (K : RoadKit.Arv Z h b kC .char N (cs.map Value.int) d) (S : RoadKit.Sta Z h ST "COMPACT_STRINGS" "Z" (.int z)) (hz : ¬ z = 0)
    (hn : cs.length = n) (hN : N = Int32.ofNat n) (l0 : 0 < n) (l2 : n ≤ 4000) (hp : ∀ c ∈ cs, ¬ c < 0 ∧ ¬ (255 : Int32) < c) (hb : bs = cs.map (fun c => c.toInt8.toInt32)) (hfr : 4 ≤ R.frames) (hlo : W + 65 ≤ R.locals) :
    Back l R p e below s args (⟨"java/lang/String", "<init>", "([C)V"⟩ : MethodName) len W (fun P a => a = #[.ref x, .ref b] ∧ P.U.heap = h ∧ P.cells + 1 ≤ R.cells ∧ P.slots + n ≤ R.slots)
      (fun P _ v B => ∃ L, QV Z x N bs h n0 v B.U.heap L ∧ B.locs = P.locs ++ L ∧ B.cells = P.cells + 1 ∧ B.slots = P.slots + n) := by
  subst hn hN hb
  refine Back.mono (backArv hZ hw wi E V C K S hz (n32 (by omega)) l0 (by omega) (fun c hc => (hp c hc).2) hfr hlo) (fun P a hp => hp) (fun P a v B hp hq => ?_)
  obtain ⟨L, ⟨q1, q2, q3, q4, q5, q6, q7, ⟨kb, v1, v2⟩, q9⟩, hl, hc, hs⟩ := hq
  exact ⟨L, ⟨q1, fun y hy => by rw [q2 y hy]; exact hx0, q3, q5, q7, h.size, kb, hh0, Nat.le_refl _, Nat.ne_of_gt E.lt, q6, by rw [List.map_map]; exact v2⟩, hl, hc, hs⟩
end StrChars.Road
namespace StrChars
open Jvm Sem ClassFile Op Lib Jvm.Stand Jvm.Free.XT Jvm.Free.ALB Jvm.Free.JM Jvm.Free
open Jvm.Lib.Cold (StaticIs)
def hi8 (x : Int32) : Int32 := lo8 (x >>> ((8 : Int32) &&& 31))
/-- what StringUTF16.getChar makes of two bytes -/
def pairCh (u v : Int32) : Int32 := (((u &&& 255) <<< ((0 : Int32) &&& 31)) ||| ((v &&& 255) <<< ((8 : Int32) &&& 31))).toUInt32.toUInt16.toUInt32.toInt32
theorem shr0 (c : Int32) : c >>> ((0 : Int32) &&& 31) = c := by
  have e : ((0 : Int32) &&& 31) = 0 := by decide
  rw [e]
  apply Int32.toBitVec_inj.mp
  rw [Int32.toBitVec_shiftRight]
  have e1 : ((0 : Int32).toBitVec.smod 32) = 0#32 := by decide
  rw [e1, BitVec.sshiftRight_eq']
  exact BitVec.sshiftRight_zero
theorem lo8_and (x : Int32) : (lo8 x &&& 255).toBitVec.toNat = x.toBitVec.toNat % 256 := by
  have h : (lo8 x).toBitVec = (x.toBitVec.signExtend 8).signExtend 32 := by rw [lo8, Int8.toBitVec_toInt32, Int32.toBitVec_toInt8]
  rw [Int32.toBitVec_and, BitVec.toNat_and, h]
  have e : ((x.toBitVec.signExtend 8).signExtend 32).toNat % 256 = x.toBitVec.toNat % 256 := by
    rw [BitVec.toNat_signExtend]
    have hlt := x.toBitVec.isLt
    simp only [BitVec.toNat_setWidth, BitVec.toNat_signExtend]
    split <;> split <;> omega
  rw [← e]
  exact Nat.and_two_pow_sub_one_eq_mod _ 8
theorem pair_says {c : Int32} (h0 : ¬ c < 0) (h1 : ¬ 65535 < c) : pairCh (lo8 c) (hi8 c) = c := by
  rw [Int32.lt_iff_toInt_lt] at h0 h1
  have e0 : (0 : Int32).toInt = 0 := rfl
  have e1 : (65535 : Int32).toInt = 65535 := rfl
  have hc : c.toInt = c.toBitVec.toNat := by
    have := c.toBitVec.isLt
    have e : c.toInt = c.toBitVec.toInt := rfl
    rw [e] at h0 h1
    rw [e]
    rw [BitVec.toInt_eq_toNat_cond] at h0 h1 ⊢
    split at h0 <;> split <;> omega
  have hn : c.toBitVec.toNat < 65536 := by omega
  have a1 := lo8_and c
  have a2 : (hi8 c &&& 255).toBitVec.toNat = c.toBitVec.toNat / 256 := by
    rw [hi8, lo8_and]
    have e : ((8 : Int32) &&& 31) = 8 := by decide
    rw [e, Int32.toBitVec_shiftRight]
    have e2 : ((8 : Int32).toBitVec.smod 32) = 8#32 := by decide
    rw [e2, BitVec.sshiftRight_eq', BitVec.toNat_sshiftRight_of_msb_false (by rw [BitVec.msb_eq_false_iff_two_mul_lt]; omega)]
    show c.toBitVec.toNat >>> 8 % 256 = _
    rw [Nat.shiftRight_eq_div_pow]
    omega
  unfold pairCh
  apply Int32.toBitVec_inj.mp
  apply BitVec.eq_of_toNat_eq
  have f0 : ((0 : Int32) &&& 31) = 0 := by decide
  have f8 : ((8 : Int32) &&& 31) = 8 := by decide
  rw [f0, f8]
  have g : (((lo8 c &&& 255) <<< (0 : Int32)) ||| ((hi8 c &&& 255) <<< (8 : Int32))).toBitVec.toNat = c.toBitVec.toNat := by
    rw [Int32.toBitVec_or, Int32.toBitVec_shiftLeft, Int32.toBitVec_shiftLeft]
    have s0 : ((0 : Int32).toBitVec.smod 32) = 0#32 := by decide
    have s8 : ((8 : Int32).toBitVec.smod 32) = 8#32 := by decide
    rw [s0, s8, BitVec.toNat_or]
    simp only [BitVec.shiftLeft_eq', BitVec.toNat_shiftLeft, a1, a2]
    show (c.toBitVec.toNat % 256) <<< 0 % 2 ^ 32 ||| (c.toBitVec.toNat / 256) <<< 8 % 2 ^ 32 = _
    rw [Nat.shiftLeft_zero, Nat.mod_eq_of_lt (show c.toBitVec.toNat % 256 < 2 ^ 32 by omega), Nat.mod_eq_of_lt (show (c.toBitVec.toNat / 256) <<< 8 < 2 ^ 32 by rw [Nat.shiftLeft_eq]; omega), Nat.or_comm, ← Nat.shiftLeft_add_eq_or_of_lt (by omega), Nat.shiftLeft_eq]
    omega
  show BitVec.toNat (((((lo8 c &&& 255) <<< (0 : Int32)) ||| ((hi8 c &&& 255) <<< (8 : Int32))).toBitVec.setWidth 16).setWidth 32) = _
  rw [BitVec.toNat_setWidth, BitVec.toNat_setWidth, g]
  omega
end StrChars
namespace StrChars
open Jvm Sem ClassFile Op Lib Jvm.Stand Jvm.Free.XT Jvm.Free.ALB Jvm.Free.JM Jvm.Free
open Jvm.Lib.Cold (StaticIs)
/-- the array's cell V codes the n chars f 0 .. f (n - 1) by the coder cd, as the JDK does: coder 1 just where some char is above 255 -/
def Cod (cd : Int32) (n : Nat) (f : Nat → Int32) (V : Cell) : Prop := (cd = 0 ∧ V.slots.size = n ∧ ∀ j, j < n → V.slots[j]? = some (.int (lo8 (f j))) ∧ ¬ 255 < f j) ∨ (cd = 1 ∧ V.slots.size = 2 * n ∧ (∀ j, j < n → V.slots[2 * j]? = some (.int (lo8 (f j))) ∧ V.slots[2 * j + 1]? = some (.int (hi8 (f j)))) ∧ ∃ j, j < n ∧ 255 < f j)
/-- **x is a String of the n chars f 0 .. f (n - 1)**, Latin-1 or UTF-16; its array at t has the cell V -/
def Txt (x t : Addr) (V : Cell) (cd : Int32) (n : Nat) (f : Nat → Int32) (U : State) : Prop := Exact "java/lang/String" x U ∧ Has x "java/lang/String" "value" "[B" (.ref t) U ∧ Has x "java/lang/String" "coder" "B" (.int cd) U ∧ XT.Arr .byte t V U ∧ Cod cd n f V ∧ ∀ j, j < n → ¬ f j < 0 ∧ ¬ 65535 < f j
theorem Txt.mv {x t : Addr} {V : Cell} {cd : Int32} {n : Nat} {f : Nat → Int32} {U U' : State} (h : Txt x t V cd n f U) (hal : U.vm.Alike U'.vm) (hh : U'.heap = U.heap) : Txt x t V cd n f U' := ⟨h.1.mv hal hh, h.2.1.mv hal hh, h.2.2.1.mv hal hh, h.2.2.2.1.mv hal hh, h.2.2.2.2⟩
end StrChars
namespace StrChars.Road
open Jvm Sem ClassFile Op Lib Jvm.Stand Jvm.Free Jvm.Free.XT
open Jvm.Lib.Cold (StaticIs)
theorem consq {a : Array Value} {s : State} {c : Jvm.Cond} {L : List Jvm.Cond} (h0 : c.before a s = true) (h : ∀ w ∈ L, w.before a s = true) : ∀ w ∈ c :: L, w.before a s = true := fun w hw => (List.mem_cons.mp hw).elim (fun e => e ▸ h0) (h w)
/-- the bytes of the chars cs, low before high -/
def wideBytes : List Int32 → List Value
  | [] => []
  | c :: cs => .int (lo8 c) :: .int (hi8 c) :: wideBytes cs
theorem wide_lo (d : Value) : ∀ (cs : List Int32) (j : Nat), j < cs.length → (wideBytes cs).getD (2 * j) d = .int (lo8 (cs.getD j 0))
  | [], j, h => absurd h (Nat.not_lt_zero j)
  | c :: cs, 0, _ => rfl
  | c :: cs, j + 1, h => by
    have q := wide_lo d cs j (by simpa using h)
    rw [show 2 * (j + 1) = 2 * j + 1 + 1 from by omega]
    simpa [wideBytes] using q
theorem wide_hi (d : Value) : ∀ (cs : List Int32) (j : Nat), j < cs.length → (wideBytes cs).getD (2 * j + 1) d = .int (hi8 (cs.getD j 0))
  | [], j, h => absurd h (Nat.not_lt_zero j)
  | c :: cs, 0, _ => rfl
  | c :: cs, j + 1, h => by
    have q := wide_hi d cs j (by simpa using h)
    rw [show 2 * (j + 1) + 1 = 2 * j + 1 + 1 + 1 from by omega]
    simpa [wideBytes] using q
theorem low_at (d : Value) (cs : List Int32) (j : Nat) (h : j < cs.length) : (cs.map fun c => Value.int (lo8 c)).getD j d = .int (lo8 (cs.getD j 0)) := by
  simp [List.getD_eq_getElem?_getD, h]
/-- an array of N2 bytes vs codes the chars cs by the coder cd -/
def CodA (cs : List Int32) (cd N2 : Int32) (vs : List Value) : Prop := (cd = 0 ∧ N2 = Int32.ofNat cs.length ∧ vs = (cs.map fun c => Value.int (lo8 c)) ∧ ∀ c ∈ cs, ¬ 255 < c) ∨ (cd = 1 ∧ N2 = Int32.ofNat (2 * cs.length) ∧ vs = wideBytes cs ∧ ∃ c ∈ cs, 255 < c)
theorem CodA.cod {cs : List Int32} {cd N2 : Int32} {vs : List Value} {V : Cell} (h : CodA cs cd N2 vs) (hn : 2 * cs.length < 2 ^ 31) (hs : V.slots.size = N2.toNatClampNeg) (hv : RoadKit.Has V vs (.int 0)) : Cod cd cs.length (fun j => cs.getD j 0) V := by
  rcases h with ⟨rfl, rfl, rfl, h⟩ | ⟨rfl, rfl, rfl, c, hc, hw⟩
  · rw [n32 (by omega)] at hs
    exact Or.inl ⟨rfl, hs, fun j hj => ⟨by rw [hv j (by omega), low_at _ _ _ hj], by
      have e : cs.getD j 0 = cs[j] := by simp [List.getD_eq_getElem?_getD, hj]
      show ¬ 255 < cs.getD j 0
      rw [e]; exact h _ (List.getElem_mem _)⟩⟩
  · rw [n32 (by omega)] at hs
    obtain ⟨j, hj, rfl⟩ := List.getElem_of_mem hc
    exact Or.inr ⟨rfl, hs, fun j hj => ⟨by rw [hv _ (by omega), wide_lo _ _ _ hj], by rw [hv _ (by omega), wide_hi _ _ _ hj]⟩, j, hj, by
      have e : cs.getD j 0 = cs[j] := by simp [List.getD_eq_getElem?_getD, hj]
      show 255 < cs.getD j 0
      rw [e]; exact hw⟩
/-- an object of exactly java/lang/String, its two fields found: as the laws ask it -/
theorem strObj {Z U : State} {a0 : Array Value} {kI : Nat} (wi : (Jvm.Cond.instantiable ST kI).before a0 Z = true) (al : Z.vm.Alike U.vm) {x : Addr} {v0 c0 : Value} (E : RoadKit.Exa Z U.heap x ST) (V : RoadKit.Fld Z U.heap x ST "value" "[B" v0) (C : RoadKit.Fld Z U.heap x ST "coder" "B" c0) :
    ∃ (D : Cell) (fV fC : Field), Blank ST x D U ∧ Found ST "value" "[B" fV U ∧ Found ST "coder" "B" fC U ∧ D.slots[fV.slot]? = some v0 ∧ D.slots[fC.slot]? = some c0 ∧ RoadKit.slotOf Z ST "value" "[B" = fV.slot ∧ RoadKit.slotOf Z ST "coder" "B" = fC.slot := by
  obtain ⟨D, cfV, kV, iV, fV, hD, gV, stV, knV, obV, asV, slV⟩ := V
  obtain ⟨D', cfC, kC, iC, fC, hD', gC, stC, -, -, asC, slC⟩ := C
  cases hD.symm.trans hD'
  obtain ⟨D2, kD, e1, e2, e3, e4, e5⟩ := E
  cases hD.symm.trans e1
  obtain ⟨c2, k2, i1, i2, i3, -⟩ := Cond.instantiable_spec wi
  cases e2.symm.trans i1
  cases e3.symm.trans i2
  obtain ⟨kU, u1, u2⟩ := al.2.2 _ _ e3
  exact ⟨D, fV, fC, ⟨hD, ⟨knV, fun q hq => by rw [hq] at obV; cases obV⟩, by rw [al.findClass]; exact e2, kU, u1, by rw [u2]; exact i3, by rw [u2]; exact e5 i3⟩, ⟨SBG.found_only al ⟨cfV, kV, iV, gV⟩, stV⟩, ⟨SBG.found_only al ⟨cfC, kC, iC, gC⟩, stC⟩, slV, slC, by simp [RoadKit.slotOf, gV], by simp [RoadKit.slotOf, gC]⟩
theorem sta_is {Z U : State} (al : Z.vm.Alike U.vm) {C n d : String} {v : Value} (S : RoadKit.Sta Z U.heap C n d v) : StaticIs U C n d v := by
  obtain ⟨cfS, iS, kS, fS, st, cS, t1, t2, t3, t4, t5, t6, t7⟩ := S
  exact StaticIs.there (s := { Z with heap := U.heap }) ⟨cfS, iS, kS, fS, st, cS, t1, t2, t3, t4, t5, (fun q => by rw [q] at t6; cases t6), t7⟩ al rfl
end StrChars.Road
namespace StrChars
open Jvm Sem ClassFile Op Lib Jvm.Stand Jvm.Free.XT Jvm.Free.ALB Jvm.Free.JM Jvm.Free
open Jvm.Lib.Cold (StaticIs)
/-- what place i of a byte[]'s cell holds -/
def yv (A : Cell) (i : Nat) : Int32 := match A.slots[i]? with | some (.int x) => x | _ => 0
theorem yv_get {a : Addr} {A : Cell} {U : State} (h : XT.Arr .byte a A U) (ht : Typed .byte A) {i : Nat} (hi : i < A.slots.size) : A.slots[i]? = some (.int (yv A i)) := by
  have e := Array.getElem?_eq_getElem hi
  have f := ht i _ e
  unfold yv; rw [e]
  generalize A.slots[i] = v at f
  cases v <;> simp [fits] at f ⊢
/-- the two arrays are equal, place for place -/
def EqC (A B : Cell) : Prop := A.slots.size = B.slots.size ∧ ∀ i, i < A.slots.size → yv A i = yv B i
/-- a boolean that says whether p -/
def Says01 (q : Prop) (r : Option Value) (s u : State) : Prop := ∃ v : Int32, r = some (.int v) ∧ u.heap = s.heap ∧ ((v = 1 ∧ q) ∨ (v = 0 ∧ ¬ q))
theorem Says01.mv {q : Prop} : ∀ r (U U' V V' : State), U'.heap = U.heap → V.vm.Alike V'.vm → V'.heap = V.heap → Says01 q r U V → Says01 q r U' V' :=
  fun r U U' V V' h1 _ h2 ⟨v, a, b, c⟩ => ⟨v, a, by rw [h1, h2]; exact b, c⟩
namespace LEq
def yN : MethodName := ⟨"java/lang/StringLatin1", "equals", "([B[B)Z"⟩
abbrev yB : ByteArray := jdk_43_method_13_code
theorem d0 : decode yB 0 = .ok (.aload_n 0, 1) := by decide +kernel
theorem d1 : decode yB 1 = .ok (.arraylength, 1) := by decide +kernel
theorem d2 : decode yB 2 = .ok (.aload_n 1, 1) := by decide +kernel
theorem d3 : decode yB 3 = .ok (.arraylength, 1) := by decide +kernel
theorem d4 : decode yB 4 = .ok (.if_icmp (.ne) 30, 3) := by decide +kernel
theorem d7 : decode yB 7 = .ok (.iconst 0, 1) := by decide +kernel
theorem d8 : decode yB 8 = .ok (.istore_n 2, 1) := by decide +kernel
theorem d9 : decode yB 9 = .ok (.iload_n 2, 1) := by decide +kernel
theorem d10 : decode yB 10 = .ok (.aload_n 0, 1) := by decide +kernel
theorem d11 : decode yB 11 = .ok (.arraylength, 1) := by decide +kernel
theorem d12 : decode yB 12 = .ok (.if_icmp (.ge) 20, 3) := by decide +kernel
theorem d15 : decode yB 15 = .ok (.aload_n 0, 1) := by decide +kernel
theorem d16 : decode yB 16 = .ok (.iload_n 2, 1) := by decide +kernel
theorem d17 : decode yB 17 = .ok (.baload, 1) := by decide +kernel
theorem d18 : decode yB 18 = .ok (.aload_n 1, 1) := by decide +kernel
theorem d19 : decode yB 19 = .ok (.iload_n 2, 1) := by decide +kernel
theorem d20 : decode yB 20 = .ok (.baload, 1) := by decide +kernel
theorem d21 : decode yB 21 = .ok (.if_icmp (.eq) 5, 3) := by decide +kernel
theorem d24 : decode yB 24 = .ok (.iconst 0, 1) := by decide +kernel
theorem d25 : decode yB 25 = .ok (.ireturn, 1) := by decide +kernel
theorem d26 : decode yB 26 = .ok (.iinc 2 1, 3) := by decide +kernel
theorem d29 : decode yB 29 = .ok (.goto (-20), 3) := by decide +kernel
theorem d32 : decode yB 32 = .ok (.iconst 1, 1) := by decide +kernel
theorem d33 : decode yB 33 = .ok (.ireturn, 1) := by decide +kernel
theorem d34 : decode yB 34 = .ok (.iconst 0, 1) := by decide +kernel
theorem d35 : decode yB 35 = .ok (.ireturn, 1) := by decide +kernel
def site : List Cond := []
def tab : Cond := tabOf yN yB 3 (some .boolean) site
def P (a : Addr) (A : Cell) (b : Addr) (B : Cell) (args : Array Value) (s : State) : Prop := args = #[.ref a, .ref b] ∧ XT.Arr .byte a A s ∧ Typed .byte A ∧ XT.Arr .byte b B s ∧ Typed .byte B
/-- whether two byte[] are equal, place for place -/
theorem law (l : Launch) (a : Addr) (A : Cell) (b : Addr) (B : Cell) : Law l yN 2 2 0 0 yB 3 (some .boolean) site (P a A b B) (Says01 (EqC A B)) [] 0 0 := by
  refine Law.of_walk (plainFor_of_name (by decide +kernel)) (by decide +kernel) (by decide +kernel) (by decide) (fun _ _ h => by rw [h.1]; rfl) (fun _ U U' hal hh h => ⟨h.1, h.2.1.mv hal hh, h.2.2.1, h.2.2.2.1.mv hal hh, h.2.2.2.2⟩) (fun r U U' V V' h1 hal h2 h => Says01.mv r U U' V V' h1 hal h2 h) ?_
  intro p e s m args below meth c s₁ X0 hexec hbytes hml hret hlk hnm hown hh0 W hP
  obtain ⟨rfl, hA, tA, hB, tB⟩ := hP
  have a31 := hA.2.2.2
  have b31 := hB.2.2.2
  have hA0 := hA.mv X0.warmed.alike hh0
  have hB0 := hB.mv X0.warmed.alike hh0
  have c1 : Steps p.tables e below (s₁.setTop (entryFrame m #[.ref a, .ref b] 3)) (s₁.setTop (mkF m 0 #[.val (.ref a), .val (.ref b), .unset] [])) := entry rfl
  have c2 : Steps p.tables e below (s₁.setTop (entryFrame m #[.ref a, .ref b] 3)) (s₁.setTop (mkF m 4 #[.val (.ref a), .val (.ref b), .unset] [.int (Int32.ofNat B.slots.size), .int (Int32.ofNat A.slots.size)])) := c1.trans (by
    refine XS.aloadN X0.here hexec rfl (hb hbytes d0) rfl rfl ?_
    refine X0.alen hexec hA0 rfl rfl (hb hbytes d1) ?_
    refine XS.aloadN X0.here hexec rfl (hb hbytes d2) rfl rfl ?_
    refine X0.alen hexec hB0 rfl rfl (hb hbytes d3) ?_
    exact Steps.refl _)
  by_cases hs : A.slots.size = B.slots.size
  · have c3 : Steps p.tables e below (s₁.setTop (entryFrame m #[.ref a, .ref b] 3)) (s₁.setTop (mkF m 9 #[.val (.ref a), .val (.ref b), .val (.int 0)] [])) := c2.trans (by
      refine XS.icmpNo X0.here hexec rfl (hb hbytes d4) rfl (ii_ne_f (by rw [hs])) ?_
      refine iconstV X0.here hexec rfl 0 (hb hbytes d7) (by decide) ?_
      refine XS.istoreN X0.here hexec rfl (hb hbytes d8) rfl rfl ?_
      exact Steps.refl _)
    have loop : ∀ (r i : Nat), i + r = A.slots.size → (∀ j, j < i → yv A j = yv B j) → Steps p.tables e below (s₁.setTop (entryFrame m #[.ref a, .ref b] 3)) (s₁.setTop (mkF m 9 #[.val (.ref a), .val (.ref b), .val (.int (Int32.ofNat i))] [])) → ∃ (pc : Nat) (Ls : Array Slot) (v : Int32), (pc = 25 ∨ pc = 33) ∧ ((v = 1 ∧ EqC A B) ∨ (v = 0 ∧ ¬ EqC A B)) ∧ Steps p.tables e below (s₁.setTop (entryFrame m #[.ref a, .ref b] 3)) (s₁.setTop (mkF m pc Ls [.int v])) := by
      intro r
      induction r with
      | zero =>
        intro i hi he cl
        exact ⟨33, _, 1, Or.inr rfl, Or.inl ⟨rfl, hs, fun j hj => he j (by omega)⟩, cl.trans (by
          refine XS.iloadN X0.here hexec rfl (hb hbytes d9) rfl ?_
          refine XS.aloadN X0.here hexec rfl (hb hbytes d10) rfl rfl ?_
          refine X0.alen hexec hA0 rfl rfl (hb hbytes d11) ?_
          refine XS.icmpYes X0.here hexec rfl (pc0 := 12) rfl (hb hbytes d12) rfl (ii_ge_t (nlt32 (by omega) (by omega))) (by decide) rfl ?_
          refine iconstV X0.here hexec rfl 1 (hb hbytes d32) (by decide) ?_
          exact Steps.refl _)⟩
      | succ r ih =>
        intro i hi he cl
        have c4 : Steps p.tables e below (s₁.setTop (entryFrame m #[.ref a, .ref b] 3)) (s₁.setTop (mkF m 21 #[.val (.ref a), .val (.ref b), .val (.int (Int32.ofNat i))] [.int (yv B i), .int (yv A i)])) := cl.trans (by
          refine XS.iloadN X0.here hexec rfl (hb hbytes d9) rfl ?_
          refine XS.aloadN X0.here hexec rfl (hb hbytes d10) rfl rfl ?_
          refine X0.alen hexec hA0 rfl rfl (hb hbytes d11) ?_
          refine XS.icmpNo X0.here hexec rfl (hb hbytes d12) rfl (ii_ge_f (lt32 (by omega) (by omega))) ?_
          refine XS.aloadN X0.here hexec rfl (hb hbytes d15) rfl rfl ?_
          refine XS.iloadN X0.here hexec rfl (hb hbytes d16) rfl ?_
          refine X0.aget hexec hA0 rfl (yv_get hA tA (i := i) (by omega)) rfl rfl (hb hbytes d17) ?_
          refine XS.aloadN X0.here hexec rfl (hb hbytes d18) rfl rfl ?_
          refine XS.iloadN X0.here hexec rfl (hb hbytes d19) rfl ?_
          refine X0.aget hexec hB0 rfl (yv_get hB tB (i := i) (by omega)) rfl rfl (hb hbytes d20) ?_
          exact Steps.refl _)
        by_cases hv : yv A i = yv B i
        · have c5 : Steps p.tables e below (s₁.setTop (entryFrame m #[.ref a, .ref b] 3)) (s₁.setTop (mkF m 9 #[.val (.ref a), .val (.ref b), .val (.int (Int32.ofNat i + 1))] [])) := c4.trans (by
            refine XS.icmpYes X0.here hexec rfl (pc0 := 21) rfl (hb hbytes d21) rfl (ii_eq_t hv) (by decide) rfl ?_
            refine iincV X0.here hexec rfl 1 (hb hbytes d26) (by decide) rfl rfl ?_
            refine XS.goto X0.here hexec rfl (pc0 := 29) rfl (hb hbytes d29) (by decide) rfl ?_
            exact Steps.refl _)
          rw [succ32] at c5
          exact ih (i + 1) (by omega) (fun j hj => by
            by_cases e : j = i
            · rw [e]; exact hv
            · exact he j (by omega)) c5
        · exact ⟨25, _, 0, Or.inl rfl, Or.inr ⟨rfl, fun q => hv (q.2 i (by omega))⟩, c4.trans (by
            refine XS.icmpNo X0.here hexec rfl (hb hbytes d21) rfl (ii_eq_f hv) ?_
            refine iconstV X0.here hexec rfl 0 (hb hbytes d24) (by decide) ?_
            exact Steps.refl _)⟩
    obtain ⟨pc, Ls, v, hpc, hv, cz⟩ := loop A.slots.size 0 (by omega) (fun j hj => absurd hj (Nat.not_lt_zero j)) c3
    have nv : narrow .boolean (.int v) = .int v := by rcases hv with ⟨rfl, -⟩ | ⟨rfl, -⟩ <;> rfl
    rcases hpc with rfl | rfl
    · exact ⟨s₁, some (.int v), _, _, _, X0, rfl, rfl, rfl, (fun h => by cases h), ⟨v, rfl, hh0, hv⟩, fun fs hl => cz.trans (X0.ireturnOut hexec hret nv (Or.inr (Or.inl rfl)) (hb hbytes d25) hl)⟩
    · exact ⟨s₁, some (.int v), _, _, _, X0, rfl, rfl, rfl, (fun h => by cases h), ⟨v, rfl, hh0, hv⟩, fun fs hl => cz.trans (X0.ireturnOut hexec hret nv (Or.inr (Or.inl rfl)) (hb hbytes d33) hl)⟩
  · have c3 : Steps p.tables e below (s₁.setTop (entryFrame m #[.ref a, .ref b] 3)) (s₁.setTop (mkF m 35 #[.val (.ref a), .val (.ref b), .unset] [.int 0])) := c2.trans (by
      refine XS.icmpYes X0.here hexec rfl (pc0 := 4) rfl (hb hbytes d4) rfl (ii_ne_t (ne32 a31 b31 hs)) (by decide) rfl ?_
      refine iconstV X0.here hexec rfl 0 (hb hbytes d34) (by decide) ?_
      exact Steps.refl _)
    exact ⟨s₁, some (.int 0), _, _, _, X0, rfl, rfl, rfl, (fun h => by cases h), ⟨0, rfl, hh0, Or.inr ⟨rfl, fun q => hs q.1⟩⟩, fun fs hl => c3.trans (X0.ireturnOut hexec hret rfl (Or.inr (Or.inl rfl)) (hb hbytes d35) hl)⟩
end LEq
theorem Cod.ty {cd : Int32} {n : Nat} {f : Nat → Int32} {V : Cell} (h : Cod cd n f V) : Typed .byte V := fun i v hv => by
  have hi : i < V.slots.size := (Array.getElem?_eq_some_iff.mp hv).1
  rcases h with ⟨-, k1, k2⟩ | ⟨-, k1, k2, -⟩
  · rw [(k2 i (by omega)).1] at hv; cases hv; exact fits_lo8 _
  · rcases Nat.mod_two_eq_zero_or_one i with e | e
    · obtain ⟨j, rfl⟩ : ∃ j, i = 2 * j := ⟨i / 2, by omega⟩
      rw [(k2 j (by omega)).1] at hv; cases hv; exact fits_lo8 _
    · obtain ⟨j, rfl⟩ : ∃ j, i = 2 * j + 1 := ⟨i / 2, by omega⟩
      rw [(k2 j (by omega)).2] at hv; cases hv; exact fits_lo8 _
/-- the same text -/
def SameT (n : Nat) (f : Nat → Int32) (k : Nat) (g : Nat → Int32) : Prop := n = k ∧ ∀ j, j < n → f j = g j
theorem lo8_inj {x y : Int32} (h0 : ¬ x < 0) (h1 : ¬ 255 < x) (k0 : ¬ y < 0) (k1 : ¬ 255 < y) (h : lo8 x = lo8 y) : x = y := by
  rw [← lo8_mask h0 h1, ← lo8_mask k0 k1, h]
/-- arrays coded by one coder are equal just where the texts are -/
theorem Cod.eqv {cd : Int32} {n k : Nat} {f g : Nat → Int32} {V V' : Cell} (h : Cod cd n f V) (h' : Cod cd k g V') (hf : ∀ j, j < n → ¬ f j < 0 ∧ ¬ 65535 < f j) (hg : ∀ j, j < k → ¬ g j < 0 ∧ ¬ 65535 < g j) : EqC V V' ↔ SameT n f k g := by
  have yvv : ∀ {W : Cell} {i : Nat} {x : Int32}, W.slots[i]? = some (.int x) → yv W i = x := fun q => by unfold yv; rw [q]
  rcases h with ⟨rfl, k1, k2⟩ | ⟨rfl, k1, k2, -⟩
  · rcases h' with ⟨-, m1, m2⟩ | ⟨e, -⟩
    · constructor
      · rintro ⟨e1, e2⟩
        refine ⟨by omega, fun j hj => ?_⟩
        have q := e2 j (by omega)
        rw [yvv (k2 j hj).1, yvv (m2 j (by omega)).1] at q
        exact lo8_inj (hf j hj).1 (k2 j hj).2 (hg j (by omega)).1 (m2 j (by omega)).2 q
      · rintro ⟨rfl, e2⟩
        refine ⟨by omega, fun j hj => ?_⟩
        rw [yvv (k2 j (by omega)).1, yvv (m2 j (by omega)).1, e2 j (by omega)]
    · exact absurd e (by decide)
  · rcases h' with ⟨e, -⟩ | ⟨-, m1, m2, -⟩
    · exact absurd e (by decide)
    · constructor
      · rintro ⟨e1, e2⟩
        refine ⟨by omega, fun j hj => ?_⟩
        have q1 := e2 (2 * j) (by omega)
        have q2 := e2 (2 * j + 1) (by omega)
        rw [yvv (k2 j hj).1, yvv (m2 j (by omega)).1] at q1
        rw [yvv (k2 j hj).2, yvv (m2 j (by omega)).2] at q2
        rw [← pair_says (hf j hj).1 (hf j hj).2, ← pair_says (hg j (by omega)).1 (hg j (by omega)).2, q1, q2]
      · rintro ⟨rfl, e2⟩
        refine ⟨by omega, fun i hi => ?_⟩
        rcases Nat.mod_two_eq_zero_or_one i with e | e
        · obtain ⟨j, rfl⟩ : ∃ j, i = 2 * j := ⟨i / 2, by omega⟩
          rw [yvv (k2 j (by omega)).1, yvv (m2 j (by omega)).1, e2 j (by omega)]
        · obtain ⟨j, rfl⟩ : ∃ j, i = 2 * j + 1 := ⟨i / 2, by omega⟩
          rw [yvv (k2 j (by omega)).2, yvv (m2 j (by omega)).2, e2 j (by omega)]
/-- two codings differ: so do the texts -/
theorem Cod.dif {cd cd' : Int32} {n k : Nat} {f g : Nat → Int32} {V V' : Cell} (h : Cod cd n f V) (h' : Cod cd' k g V') (hne : ¬ cd = cd') : ¬ SameT n f k g := by
  rintro ⟨rfl, e⟩
  rcases h with ⟨rfl, -, k2⟩ | ⟨rfl, -, -, j, hj, hw⟩
  · rcases h' with ⟨rfl, -⟩ | ⟨-, -, -, j, hj, hw⟩
    · exact hne rfl
    · exact (k2 j hj).2 (by rw [e j hj]; exact hw)
  · rcases h' with ⟨-, -, m2⟩ | ⟨rfl, -⟩
    · exact (m2 j hj).2 (by rw [← e j hj]; exact hw)
    · exact hne rfl
/-- an object of exactly C is an instance of C -/
theorem cinst {p : Program} {l : Launch} {e : Env} {R : Room} {s : State} {m : MethodId} {args : Array Value} {below : List Frame} {meth : Method} {c : Code} {T : State} {locs : List Loc} {cells slots : Nat} (X : Stand p l e R s m args below meth c T locs cells slots) (hexec : p.tables.exec = Jvm.exec) {own C : String} {index : Nat} (hown : s.vm.findClass own = some m.cls) (hlink : (Cond.classLink own index C).before args s = true) {a : Addr} (hE : Exact C a T)
    {g : JFrame} (hg : g.method = m) {rest : List Value} (hstack : g.stack = .ref a :: rest) (hdg : decode c.code g.pc = .ok (.instanceof index, 3)) :
    ∃ T', Stand p l e R s m args below meth c T' locs cells slots ∧ T'.heap = T.heap ∧ ∀ target, Steps p.tables e below (T'.setTop { g with pc := g.pc + 3, stack := .int 1 :: rest }) target → Steps p.tables e below (T.setTop g) target := by
  obtain ⟨cB, h1, D, h2, h3, h4⟩ := hE
  have h1' : s.vm.findClass C = some cB := by rw [← X.warmed.alike.findClass]; exact h1
  obtain ⟨vm', X', st⟩ := X.instanceofYes hexec hown hlink h2 h4 h1' (by rw [h3]; exact Jvm.Free.SB.assignable_self _ _) hg hstack hdg
  exact ⟨_, X', rfl, st⟩
theorem cself {p : Program} {l : Launch} {e : Env} {R : Room} {s : State} {m : MethodId} {args : Array Value} {below : List Frame} {meth : Method} {c : Code} {T : State} {locs : List Loc} {cells slots : Nat} (X : Stand p l e R s m args below meth c T locs cells slots) (hexec : p.tables.exec = Jvm.exec) {own C : String} {index : Nat} (hown : s.vm.findClass own = some m.cls) (hlink : (Cond.classLink own index C).before args s = true) {a : Addr} (hE : Exact C a T)
    {g : JFrame} (hg : g.method = m) {rest : List Value} (hstack : g.stack = .ref a :: rest) (hdg : decode c.code g.pc = .ok (.checkcast index, 3)) :
    ∃ T', Stand p l e R s m args below meth c T' locs cells slots ∧ T'.heap = T.heap ∧ ∀ target, Steps p.tables e below (T'.setTop { g with pc := g.pc + 3, stack := .ref a :: rest }) target → Steps p.tables e below (T.setTop g) target := by
  obtain ⟨cB, h1, D, h2, h3, h4⟩ := hE
  have h1' : s.vm.findClass C = some cB := by rw [← X.warmed.alike.findClass]; exact h1
  obtain ⟨vm', X', st⟩ := X.checkcastYes hexec hown hlink h2 h4 h1' (by rw [h3]; exact Jvm.Free.SB.assignable_self _ _) hg hstack hdg
  exact ⟨_, X', rfl, fun t h => st t (by rw [← hstack] at h; exact h)⟩
namespace SEq
def yN : MethodName := ⟨"java/lang/String", "equals", "(Ljava/lang/Object;)Z"⟩
abbrev yB : ByteArray := jdk_42_method_66_code
theorem d0 : decode yB 0 = .ok (.aload_n 0, 1) := by decide +kernel
theorem d1 : decode yB 1 = .ok (.aload_n 1, 1) := by decide +kernel
theorem d2 : decode yB 2 = .ok (.if_acmp (.ne) 5, 3) := by decide +kernel
theorem d5 : decode yB 5 = .ok (.iconst 1, 1) := by decide +kernel
theorem d6 : decode yB 6 = .ok (.ireturn, 1) := by decide +kernel
theorem d7 : decode yB 7 = .ok (.aload_n 1, 1) := by decide +kernel
theorem d8 : decode yB 8 = .ok (.instanceof 10, 3) := by decide +kernel
theorem d11 : decode yB 11 = .ok (.ifCond (.eq) 43, 3) := by decide +kernel
theorem d14 : decode yB 14 = .ok (.aload_n 1, 1) := by decide +kernel
theorem d15 : decode yB 15 = .ok (.checkcast 10, 3) := by decide +kernel
theorem d18 : decode yB 18 = .ok (.astore_n 2, 1) := by decide +kernel
theorem d19 : decode yB 19 = .ok (.getstatic 38, 3) := by decide +kernel
theorem d22 : decode yB 22 = .ok (.ifCond (.eq) 14, 3) := by decide +kernel
theorem d25 : decode yB 25 = .ok (.aload_n 0, 1) := by decide +kernel
theorem d26 : decode yB 26 = .ok (.getfield 15, 3) := by decide +kernel
theorem d29 : decode yB 29 = .ok (.aload_n 2, 1) := by decide +kernel
theorem d30 : decode yB 30 = .ok (.getfield 15, 3) := by decide +kernel
theorem d33 : decode yB 33 = .ok (.if_icmp (.ne) 21, 3) := by decide +kernel
theorem d36 : decode yB 36 = .ok (.aload_n 0, 1) := by decide +kernel
theorem d37 : decode yB 37 = .ok (.getfield 9, 3) := by decide +kernel
theorem d40 : decode yB 40 = .ok (.aload_n 2, 1) := by decide +kernel
theorem d41 : decode yB 41 = .ok (.getfield 9, 3) := by decide +kernel
theorem d44 : decode yB 44 = .ok (.invokestatic 541, 3) := by decide +kernel
theorem d47 : decode yB 47 = .ok (.ifCond (.eq) 7, 3) := by decide +kernel
theorem d50 : decode yB 50 = .ok (.iconst 1, 1) := by decide +kernel
theorem d51 : decode yB 51 = .ok (.goto 4, 3) := by decide +kernel
theorem d54 : decode yB 54 = .ok (.iconst 0, 1) := by decide +kernel
theorem d55 : decode yB 55 = .ok (.ireturn, 1) := by decide +kernel
def site : List Cond := [.classLink "java/lang/String" 10 "java/lang/String", .fieldLink "java/lang/String" 38 "java/lang/String" "COMPACT_STRINGS" "Z", .fieldLink "java/lang/String" 15 "java/lang/String" "coder" "B", .fieldLink "java/lang/String" 9 "java/lang/String" "value" "[B", LEq.tab] ++ staticW "java/lang/String" 541 LEq.yN
def tab : Cond := tabOf yN yB 3 (some .boolean) site
def P (x t : Addr) (V : Cell) (cd : Int32) (n : Nat) (f : Nat → Int32) (y t' : Addr) (V' : Cell) (cd' : Int32) (k : Nat) (g : Nat → Int32) (z : Int32) (args : Array Value) (s : State) : Prop := args = #[.ref x, .ref y] ∧ Txt x t V cd n f s ∧ Txt y t' V' cd' k g s ∧ StaticIs s "java/lang/String" "COMPACT_STRINGS" "Z" (.int z) ∧ ¬ z = 0
/-- equals(Object) of two Strings: whether the texts are the same -/
theorem law (l : Launch) (x t : Addr) (V : Cell) (cd : Int32) (n : Nat) (f : Nat → Int32) (y t' : Addr) (V' : Cell) (cd' : Int32) (k : Nat) (g : Nat → Int32) (z : Int32) : Law l yN 2 1 1 14 yB 3 (some .boolean) site (P x t V cd n f y t' V' cd' k g z) (Says01 (SameT n f k g)) [] 0 0 := by
  refine Law.of_walk (plainFor_of_name (by decide +kernel)) (by decide +kernel) (by decide +kernel) (by decide) (fun _ _ h => by rw [h.1]; rfl) (fun _ U U' hal hh h => ⟨h.1, h.2.1.mv hal hh, h.2.2.1.mv hal hh, h.2.2.2.1.there hal hh, h.2.2.2.2⟩) (fun r U U' V V' h1 hal h2 h => Says01.mv r U U' V V' h1 hal h2 h) ?_
  intro p e s m args below meth c s₁ X0 hexec hbytes hml hret hlk hnm hown hh0 W hP
  obtain ⟨rfl, hx, hy, s1, hz⟩ := hP
  have c1 : Steps p.tables e below (s₁.setTop (entryFrame m #[.ref x, .ref y] 3)) (s₁.setTop (mkF m 2 #[.val (.ref x), .val (.ref y), .unset] [.ref y, .ref x])) := Steps.trans (entry rfl) (by
    show Steps p.tables e below (s₁.setTop (mkF m 0 #[.val (.ref x), .val (.ref y), .unset] [])) _
    refine XS.aloadN X0.here hexec rfl (hb hbytes d0) rfl rfl ?_
    refine XS.aloadN X0.here hexec rfl (hb hbytes d1) rfl rfl ?_
    exact Steps.refl _)
  by_cases hxy : x = y
  · have c2 : Steps p.tables e below (s₁.setTop (entryFrame m #[.ref x, .ref y] 3)) (s₁.setTop (mkF m 6 #[.val (.ref x), .val (.ref y), .unset] [.int 1])) := c1.trans (by
      refine acmpNo X0.here hexec rfl (hb hbytes d2) rfl rfl rfl (by simp [acmp, hxy]) ?_
      refine iconstV X0.here hexec rfl 1 (hb hbytes d5) (by decide) ?_
      exact Steps.refl _)
    subst hxy
    have ec : cd = cd' := by
      obtain ⟨D, fd, a1, a2, a3⟩ := hx.2.2.1
      obtain ⟨D', fd', b1, b2, b3⟩ := hy.2.2.1
      cases a1.symm.trans b1
      obtain ⟨q1, q2, q3, q4⟩ := a2.1
      obtain ⟨r1, r2, r3, r4⟩ := b2.1
      cases q4.symm.trans r4
      cases a3.symm.trans b3; rfl
    have et : t = t' := by
      obtain ⟨D, fd, a1, a2, a3⟩ := hx.2.1
      obtain ⟨D', fd', b1, b2, b3⟩ := hy.2.1
      cases a1.symm.trans b1
      obtain ⟨q1, q2, q3, q4⟩ := a2.1
      obtain ⟨r1, r2, r3, r4⟩ := b2.1
      cases q4.symm.trans r4
      cases a3.symm.trans b3; rfl
    subst ec et
    have ev : V = V' := by cases hx.2.2.2.1.1.symm.trans hy.2.2.2.1.1; rfl
    subst ev
    have hs : SameT n f k g := (Cod.eqv hx.2.2.2.2.1 hy.2.2.2.2.1 hx.2.2.2.2.2 hy.2.2.2.2.2).mp ⟨rfl, fun _ _ => rfl⟩
    exact ⟨s₁, some (.int 1), _, _, _, X0, rfl, rfl, rfl, (fun h => by cases h), ⟨1, rfl, hh0, Or.inl ⟨rfl, hs⟩⟩, fun fs hl => c2.trans (X0.ireturnOut hexec hret rfl (Or.inr (Or.inl rfl)) (hb hbytes d6) hl)⟩
  · have c2 : Steps p.tables e below (s₁.setTop (entryFrame m #[.ref x, .ref y] 3)) (s₁.setTop (mkF m 8 #[.val (.ref x), .val (.ref y), .unset] [.ref y])) := c1.trans (by
      refine acmpYes X0.here hexec rfl (pc0 := 2) rfl (hb hbytes d2) rfl rfl rfl (by simp [acmp, hxy]) (by decide) rfl ?_
      refine XS.aloadN X0.here hexec rfl (hb hbytes d7) rfl rfl ?_
      exact Steps.refl _)
    obtain ⟨T3, X3, q3, st3⟩ := cinst X0 hexec hown (wk W (.classLink "java/lang/String" 10 "java/lang/String")) (hy.mv X0.warmed.alike hh0).1 (g := (mkF m 8 #[.val (.ref x), .val (.ref y), .unset] [.ref y])) rfl (rest := []) rfl (hb hbytes d8)
    have hh3 := q3.trans hh0
    have c4 : Steps p.tables e below (s₁.setTop (entryFrame m #[.ref x, .ref y] 3)) (T3.setTop (mkF m 15 #[.val (.ref x), .val (.ref y), .unset] [.ref y])) := (c2.trans (st3 _ (Steps.refl _))).trans (by
      refine XS.ifNo X3.here hexec rfl (hb hbytes d11) rfl (i0_eq_f (by decide)) ?_
      refine XS.aloadN X3.here hexec rfl (hb hbytes d14) rfl rfl ?_
      exact Steps.refl _)
    obtain ⟨T5, X5, q5, st5⟩ := cself X3 hexec hown (wk W (.classLink "java/lang/String" 10 "java/lang/String")) (hy.mv X3.warmed.alike hh3).1 (g := (mkF m 15 #[.val (.ref x), .val (.ref y), .unset] [.ref y])) rfl (rest := []) rfl (hb hbytes d15)
    have hh5 := q5.trans hh3
    have c6 : Steps p.tables e below (s₁.setTop (entryFrame m #[.ref x, .ref y] 3)) (T5.setTop (mkF m 19 #[.val (.ref x), .val (.ref y), .val (.ref y)] [])) := (c4.trans (st5 _ (Steps.refl _))).trans (by
      refine XS.astoreN X5.here hexec rfl (hb hbytes d18) rfl rfl rfl ?_
      exact Steps.refl _)
    obtain ⟨T7, X7, q7, st7⟩ := X5.sget hexec hown (wk W (.fieldLink "java/lang/String" 38 "java/lang/String" "COMPACT_STRINGS" "Z")) s1 (fun _ _ h => by rw [hh5]; exact h) (g := (mkF m 19 #[.val (.ref x), .val (.ref y), .val (.ref y)] [])) rfl (hb hbytes d19)
    have hh7 := q7.trans hh5
    have c8 : Steps p.tables e below (s₁.setTop (entryFrame m #[.ref x, .ref y] 3)) (T7.setTop (mkF m 26 #[.val (.ref x), .val (.ref y), .val (.ref y)] [.ref x])) := (c6.trans (st7 _ (Steps.refl _))).trans (by
      refine XS.ifNo X7.here hexec rfl (hb hbytes d22) rfl (i0_eq_f hz) ?_
      refine XS.aloadN X7.here hexec rfl (hb hbytes d25) rfl rfl ?_
      exact Steps.refl _)
    obtain ⟨T9, X9, q9, st9⟩ := X7.hget hexec hown (wk W (.fieldLink "java/lang/String" 15 "java/lang/String" "coder" "B")) (hx.mv X7.warmed.alike hh7).2.2.1 (g := (mkF m 26 #[.val (.ref x), .val (.ref y), .val (.ref y)] [.ref x])) rfl (rest := []) rfl (hb hbytes d26)
    have hh9 := q9.trans hh7
    have c10 : Steps p.tables e below (s₁.setTop (entryFrame m #[.ref x, .ref y] 3)) (T9.setTop (mkF m 30 #[.val (.ref x), .val (.ref y), .val (.ref y)] [.ref y, .int cd])) := (c8.trans (st9 _ (Steps.refl _))).trans (by
      refine XS.aloadN X9.here hexec rfl (hb hbytes d29) rfl rfl ?_
      exact Steps.refl _)
    obtain ⟨T11, X11, q11, st11⟩ := X9.hget hexec hown (wk W (.fieldLink "java/lang/String" 15 "java/lang/String" "coder" "B")) (hy.mv X9.warmed.alike hh9).2.2.1 (g := (mkF m 30 #[.val (.ref x), .val (.ref y), .val (.ref y)] [.ref y, .int cd])) rfl (rest := [.int cd]) rfl (hb hbytes d30)
    have hh11 := q11.trans hh9
    have c12 : Steps p.tables e below (s₁.setTop (entryFrame m #[.ref x, .ref y] 3)) (T11.setTop (mkF m 33 #[.val (.ref x), .val (.ref y), .val (.ref y)] [.int cd', .int cd])) := c10.trans (st11 _ (Steps.refl _))
    by_cases hcd : cd = cd'
    · subst hcd
      have c13 : Steps p.tables e below (s₁.setTop (entryFrame m #[.ref x, .ref y] 3)) (T11.setTop (mkF m 37 #[.val (.ref x), .val (.ref y), .val (.ref y)] [.ref x])) := c12.trans (by
        refine XS.icmpNo X11.here hexec rfl (hb hbytes d33) rfl (ii_ne_f rfl) ?_
        refine XS.aloadN X11.here hexec rfl (hb hbytes d36) rfl rfl ?_
        exact Steps.refl _)
      obtain ⟨T14, X14, q14, st14⟩ := X11.hget hexec hown (wk W (.fieldLink "java/lang/String" 9 "java/lang/String" "value" "[B")) (hx.mv X11.warmed.alike hh11).2.1 (g := (mkF m 37 #[.val (.ref x), .val (.ref y), .val (.ref y)] [.ref x])) rfl (rest := []) rfl (hb hbytes d37)
      have hh14 := q14.trans hh11
      have c15 : Steps p.tables e below (s₁.setTop (entryFrame m #[.ref x, .ref y] 3)) (T14.setTop (mkF m 41 #[.val (.ref x), .val (.ref y), .val (.ref y)] [.ref y, .ref t])) := (c13.trans (st14 _ (Steps.refl _))).trans (by
        refine XS.aloadN X14.here hexec rfl (hb hbytes d40) rfl rfl ?_
        exact Steps.refl _)
      obtain ⟨T16, X16, q16, st16⟩ := X14.hget hexec hown (wk W (.fieldLink "java/lang/String" 9 "java/lang/String" "value" "[B")) (hy.mv X14.warmed.alike hh14).2.1 (g := (mkF m 41 #[.val (.ref x), .val (.ref y), .val (.ref y)] [.ref y, .ref t])) rfl (rest := [.ref t]) rfl (hb hbytes d41)
      have hh16 := q16.trans hh14
      have c17 : Steps p.tables e below (s₁.setTop (entryFrame m #[.ref x, .ref y] 3)) (T16.setTop (mkF m 44 #[.val (.ref x), .val (.ref y), .val (.ref y)] [.ref t', .ref t])) := c15.trans (st16 _ (Steps.refl _))
      obtain ⟨v18, T18, X18, E18, g18⟩ := X16.callS hexec (LEq.law l t V t' V') hown (wks W (staticW "java/lang/String" 541 LEq.yN)) (wk W LEq.tab) (W := 0) (Nat.le_of_ble_eq_true rfl) (Nat.le_of_ble_eq_true rfl) (Nat.le_refl _) (Nat.le_refl _) (g := (mkF m 44 #[.val (.ref x), .val (.ref y), .val (.ref y)] [.ref t', .ref t])) rfl (by rw [hml]; rfl) c17 (argsL := [.ref t, .ref t']) (rest := []) rfl rfl (by show 2 * 0 + 0 ≤ _; decide) (hb hbytes d44) (⟨rfl, hx.2.2.2.1.mv X16.warmed.alike hh16, hx.2.2.2.2.1.ty, hy.2.2.2.1.mv X16.warmed.alike hh16, hy.2.2.2.2.1.ty⟩)
      obtain ⟨v, rfl, q18, hv⟩ := E18
      have iff := Cod.eqv hx.2.2.2.2.1 hy.2.2.2.2.1 hx.2.2.2.2.2 hy.2.2.2.2.2
      rcases hv with ⟨rfl, he⟩ | ⟨rfl, he⟩
      · have c19 : Steps p.tables e below (s₁.setTop (entryFrame m #[.ref x, .ref y] 3)) (T18.setTop (mkF m 55 #[.val (.ref x), .val (.ref y), .val (.ref y)] [.int 1])) := Steps.trans g18 (by
          refine XS.ifNo X18.here hexec rfl (hb hbytes d47) rfl (i0_eq_f (by decide)) ?_
          refine iconstV X18.here hexec rfl 1 (hb hbytes d50) (by decide) ?_
          refine XS.goto X18.here hexec rfl (pc0 := 51) rfl (hb hbytes d51) (by decide) rfl ?_
          exact Steps.refl _)
        exact ⟨T18, some (.int 1), _, _, _, X18, rfl, rfl, rfl, (fun h => by cases h), ⟨1, rfl, q18.trans hh16, Or.inl ⟨rfl, iff.mp he⟩⟩, fun fs hl => c19.trans (X18.ireturnOut hexec hret rfl (Or.inr (Or.inl rfl)) (hb hbytes d55) hl)⟩
      · have c19 : Steps p.tables e below (s₁.setTop (entryFrame m #[.ref x, .ref y] 3)) (T18.setTop (mkF m 55 #[.val (.ref x), .val (.ref y), .val (.ref y)] [.int 0])) := Steps.trans g18 (by
          refine XS.ifYes X18.here hexec rfl (pc0 := 47) rfl (hb hbytes d47) rfl (i0_eq_t rfl) (by decide) rfl ?_
          refine iconstV X18.here hexec rfl 0 (hb hbytes d54) (by decide) ?_
          exact Steps.refl _)
        exact ⟨T18, some (.int 0), _, _, _, X18, rfl, rfl, rfl, (fun h => by cases h), ⟨0, rfl, q18.trans hh16, Or.inr ⟨rfl, fun q => he (iff.mpr q)⟩⟩, fun fs hl => c19.trans (X18.ireturnOut hexec hret rfl (Or.inr (Or.inl rfl)) (hb hbytes d55) hl)⟩
    · have c13 : Steps p.tables e below (s₁.setTop (entryFrame m #[.ref x, .ref y] 3)) (T11.setTop (mkF m 55 #[.val (.ref x), .val (.ref y), .val (.ref y)] [.int 0])) := c12.trans (by
        refine XS.icmpYes X11.here hexec rfl (pc0 := 33) rfl (hb hbytes d33) rfl (ii_ne_t hcd) (by decide) rfl ?_
        refine iconstV X11.here hexec rfl 0 (hb hbytes d54) (by decide) ?_
        exact Steps.refl _)
      exact ⟨T11, some (.int 0), _, _, _, X11, rfl, rfl, rfl, (fun h => by cases h), ⟨0, rfl, hh11, Or.inr ⟨rfl, Cod.dif hx.2.2.2.2.1 hy.2.2.2.2.1 hcd⟩⟩, fun fs hl => c13.trans (X11.ireturnOut hexec hret rfl (Or.inr (Or.inl rfl)) (hb hbytes d55) hl)⟩
theorem pays {l : Launch} {R : Room} {p : Program} {e : Env} {below : List Frame} {s : State} {sargs : Array Value} {len W : Nat} (x t : Addr) (V : Cell) (cd : Int32) (n : Nat) (f : Nat → Int32) (y t' : Addr) (V' : Cell) (cd' : Int32) (k : Nat) (g : Nat → Int32) (z : Int32) (htab : tab.before sargs s = true) (hfr : 2 ≤ R.frames) (hlo : W + 28 ≤ R.locals) :
    Back l R p e below s sargs yN len W (fun A₁ a₁ => A₁.cells + 0 ≤ R.cells ∧ A₁.slots + 0 ≤ R.slots ∧ P x t V cd n f y t' V' cd' k g z a₁ A₁.U) (fun A₁ _ v₁ B₁ => Says01 (SameT n f k g) v₁ A₁.U B₁.U ∧ B₁.locs = A₁.locs ++ [] ∧ B₁.cells = A₁.cells + 0 ∧ B₁.slots = A₁.slots + 0) :=
  (law l x t V cd n f y t' V' cd' k g z).pays htab hfr (by omega)
end SEq
end StrChars
namespace StrChars.Road
open Jvm Sem ClassFile Op Lib Jvm.Stand Jvm.Free Jvm.Free.XT
open Jvm.Lib.Cold (StaticIs)
/-- the words of String.equals(Object) -/
abbrev wordsEq : List Jvm.Cond := [.code SEq.yN SEq.yB 3 (some .boolean), .initialized ST, .classLink ST 10 ST, .fieldLink ST 38 ST "COMPACT_STRINGS" "Z", .fieldLink ST 15 ST "coder" "B", .fieldLink ST 9 ST "value" "[B", .methodLink ST 541 LEq.yN, .static LEq.yN, .code LEq.yN LEq.yB 3 (some .boolean), .initialized "java/lang/StringLatin1"]
theorem tabEq_of {a : Array Value} {s : State} (h : ∀ w ∈ wordsEq, w.before a s = true) : SEq.tab.before a s = true := by
  have hl : LEq.tab.before a s = true := unparts (wk h (.code LEq.yN LEq.yB 3 (some .boolean))) (wks h (.initialized LEq.yN.cls :: LEq.site))
  have q := consq hl h
  exact unparts (wk q (.code SEq.yN SEq.yB 3 (some .boolean))) (wks q (.initialized SEq.yN.cls :: SEq.site))
theorem movedEq {Z s : State} {a0 args : Array Value} (hZ : Z.Warmed39 s.vm) (hw : ∀ d ∈ wordsEq, d.before a0 Z = true) : ∀ d ∈ wordsEq, d.before args s = true := fun d hd => by
  have t : ∀ d ∈ wordsEq, (d.onTables && d.keepsFace) = true := by decide +kernel
  exact RoadKit.mv hZ (hw d hd) (t d hd)
/-- the road's facts of a String, as the laws ask it -/
theorem txt_of {Z U : State} {a0 : Array Value} {kI : Nat} (wi : (Jvm.Cond.instantiable ST kI).before a0 Z = true) (al : Z.vm.Alike U.vm) {x t : Addr} {kb : ClassId} {cs : List Int32} {cd N2 : Int32} {vs : List Value} (E : RoadKit.Exa Z U.heap x ST) (V : RoadKit.Fld Z U.heap x ST "value" "[B" (.ref t)) (C : RoadKit.Fld Z U.heap x ST "coder" "B" (.int cd)) (K : RoadKit.Arv Z U.heap t kb .byte N2 vs (.int 0)) (hc : CodA cs cd N2 vs) (hb : ∀ c ∈ cs, ¬ c < 0 ∧ ¬ (65535 : Int32) < c) (l2 : cs.length ≤ 4000) :
    ∃ A, Txt x t A cd cs.length (fun j => cs.getD j 0) U := by
  obtain ⟨A, K1, K2, K3, K4, K5, K6⟩ := K
  have hcod := hc.cod (by omega) K3 K5
  obtain ⟨D, fV, fC, hB, F1, F2, g1, g2, -, -⟩ := strObj wi al E V C
  exact ⟨A, ⟨_, hB.2.2.1, D, hB.1, rfl, by cases q : D.vm <;> first | rfl | exact absurd q (hB.2.1.2 _)⟩, Has.of hB F1 g1, Has.of hB F2 g2, ⟨K1.1, State.isArrayOf_alike al K1.2.1, K1.2.2, by rcases hcod with ⟨-, q, -⟩ | ⟨-, q, -⟩ <;> omega⟩, hcod, fun j hj => by
    have e : cs.getD j 0 = cs[j] := by simp [List.getD_eq_getElem?_getD, hj]
    show ¬ cs.getD j 0 < 0 ∧ ¬ 65535 < cs.getD j 0
    rw [e]; exact hb _ (List.getElem_mem _)⟩
theorem same_list (cs ds : List Int32) : SameT cs.length (fun j => cs.getD j 0) ds.length (fun j => ds.getD j 0) ↔ cs = ds := by
  constructor
  · rintro ⟨e, q⟩
    refine List.ext_getElem e fun j h1 h2 => ?_
    have := q j h1
    simpa [List.getD_eq_getElem?_getD, h1, h2] using this
  · rintro rfl
    exact ⟨rfl, fun _ _ => rfl⟩
/-- **equals(Object) OF TWO SUCH STRINGS**: 1 just where the chars are the same -/
theorem eqW {p : Program} {l : Launch} {e : Env} {R : Room} {s : State} {args : Array Value} {below : List Frame} {len W : Nat} {Z : State} {a0 : Array Value} {h : Heap} (hZ : Z.Warmed39 s.vm) (hw : ∀ d ∈ wordsEq, d.before a0 Z = true) {kI : Nat} (wi : (Jvm.Cond.instantiable ST kI).before a0 Z = true)
    {x t : Addr} {kb : ClassId} {cs : List Int32} {cd N2 : Int32} {vs : List Value} (E : RoadKit.Exa Z h x ST) (V : RoadKit.Fld Z h x ST "value" "[B" (.ref t)) (C : RoadKit.Fld Z h x ST "coder" "B" (.int cd)) (K : RoadKit.Arv Z h t kb .byte N2 vs (.int 0)) (hc : CodA cs cd N2 vs) (hb : ∀ c ∈ cs, ¬ c < 0 ∧ ¬ (65535 : Int32) < c) (l2 : cs.length ≤ 4000)
    {y t' : Addr} {kb' : ClassId} {ds : List Int32} {cd' N2' : Int32} {vs' : List Value} (E' : RoadKit.Exa Z h y ST) (V' : RoadKit.Fld Z h y ST "value" "[B" (.ref t')) (C' : RoadKit.Fld Z h y ST "coder" "B" (.int cd')) (K' : RoadKit.Arv Z h t' kb' .byte N2' vs' (.int 0)) (hc' : CodA ds cd' N2' vs') (hb' : ∀ c ∈ ds, ¬ c < 0 ∧ ¬ (65535 : Int32) < c) (l2' : ds.length ≤ 4000)
    {z : Int32} (S : RoadKit.Sta Z h ST "COMPACT_STRINGS" "Z" (.int z)) (hz : ¬ z = 0) (hfr : 2 ≤ R.frames) (hlo : W + 28 ≤ R.locals) :
    Back l R p e below s args (⟨"java/lang/String", "equals", "(Ljava/lang/Object;)Z"⟩ : MethodName) len W (fun P a => a = #[.ref x, .ref y] ∧ P.U.heap = h ∧ P.cells + 0 ≤ R.cells ∧ P.slots + 0 ≤ R.slots)
      (fun P _ v B => ∃ L, (((v = some (.int 1) ∧ cs = ds) ∨ (v = some (.int 0) ∧ ¬ cs = ds)) ∧ L = [] ∧ B.U.heap = h) ∧ B.locs = P.locs ++ L ∧ B.cells = P.cells + 0 ∧ B.slots = P.slots + 0) := by
  intro m meth c P g ig mk a X hg hsize hdg hW hn hp'
  obtain ⟨rfl, rfl, r1, r2⟩ := hp'
  have al : Z.vm.Alike P.U.vm := hZ.alike.trans X.warmed.alike
  obtain ⟨A, hx⟩ := txt_of wi al E V C K hc hb l2
  obtain ⟨A', hy⟩ := txt_of wi al E' V' C' K' hc' hb' l2'
  obtain ⟨v, B, X', ⟨⟨w, hv, hh, hq⟩, hl, hk, hs⟩, st⟩ := SEq.pays x t A cd cs.length (fun j => cs.getD j 0) y t' A' cd' ds.length (fun j => ds.getD j 0) z (tabEq_of (movedEq hZ hw)) hfr hlo m meth c P g ig mk _ X hg hsize hdg hW hn ⟨r1, r2, rfl, hx, hy, sta_is al S, hz⟩
  refine ⟨v, B, X', ⟨[], ⟨?_, rfl, hh⟩, hl, hk, hs⟩, st⟩
  rcases hq with ⟨rfl, q⟩ | ⟨rfl, q⟩
  · exact Or.inl ⟨hv, (same_list cs ds).mp q⟩
  · exact Or.inr ⟨hv, fun e => q ((same_list cs ds).mpr e)⟩
end StrChars.Road
namespace StrChars.Road
open Jvm Sem ClassFile Op Lib Jvm.Stand Jvm.Free Jvm.Free.XT
open Jvm.Lib.Cold (StaticIs)
/-- what backV says of its String, as the contracts of this text ask it: cs's low bytes, coder 0 -/
theorem codOf {cs : List Int32} {n : Nat} (hn : cs.length = n) (hb : ∀ c ∈ cs, ¬ 255 < c) : CodA cs 0 (Int32.ofNat n) ((cs.map lo8).map Value.int) := Or.inl ⟨rfl, by rw [hn], by simp [List.map_map, Function.comp_def], hb⟩
end StrChars.Road
end Jvm.Pilot.@@N@@
namespace Jvm.Pilot.@@N@@
open Jvm Jvm.ClassFile Sem Op Lib Jvm.Free Jvm.Stand Jvm.LawKit Jvm.RoadKit Bundle Jvm.Pilot.@@N@@.Jvm.D
section OwnKit
variable {p : Program} {l : Launch} {e : Env} {R : Room} {s : State} {m : MethodId} {args : Array Value} {below : List Frame} {meth : Method} {c : Code} {T : State} {locs : List Loc} {cells slots : Nat} {Z : State} {a0 : Array Value} {h : Heap} {Φ : Outcome → State → Prop}
def own_ushr (x y : Int32) : Int32 := (x.toUInt32 >>> (y &&& 31).toUInt32).toInt32
def own_ushrL (x : Int64) (y : Int32) : Int64 := (x.toUInt64 >>> (y &&& 0x3f).toInt64.toUInt64).toInt64
def own_Ends (p : Program) (e : Env) (below : List Frame) (Φ : Outcome → State → Prop) (t : State) : Prop := ∃ s₂ o, Steps p.tables e below t s₂ ∧ s₂.status = .running ∧ Ended s₂ below o ∧ Φ o s₂
theorem own_via {t t' : State} (k : ∀ u, Steps p.tables e below t' u → Steps p.tables e below t u) (h : own_Ends p e below Φ t') : own_Ends p e below Φ t := by
  obtain ⟨s₂, o, h1, h2⟩ := h; exact ⟨s₂, o, k _ h1, h2⟩
theorem own_thru {t t' : State} (k : Steps p.tables e below t t') (h : own_Ends p e below Φ t') : own_Ends p e below Φ t := own_via (fun _ q => k.trans q) h
def own_Post (s : State) (Q : Option Value → Heap → List Loc → Prop) (kc ks : Nat) (o : Outcome) (U : State) : Prop := ∃ v L, o = .returned v ∧ Q v U.heap L ∧ FrameEnd s o U L kc ks
def own_Met (l : Launch) (y : MethodName) (bytes : ByteArray) (maxL : Nat) (ret : Option FieldType) (rm : Room) (Z : State) (as' : Array Value) (h0 : Heap) (Q : Option Value → Heap → List Loc → Prop) : Prop :=
  ∀ ws : List Jvm.Cond, MetFree l y (head1 (Jvm.Cond.code y bytes maxL ret :: ws) rm) (fun a U => a = as' ∧ Z.Warmed39 U.vm ∧ U.heap = h0) (fun _ _ _ _ _ => True) (fun _ U o U' => ∃ v L, o = .returned v ∧ Q v U'.heap L ∧ FrameEnd U o U' L rm.cells rm.slots)
theorem own_met {y : MethodName} {bytes : ByteArray} {maxL : Nat} {ret : Option FieldType} {rm : Room} {as' : Array Value} {h0 : Heap} {Q : Option Value → Heap → List Loc → Prop} (hp : plainFor y = true)
    (body : ∀ (p : Program) (e : Env) (s : State) (m : MethodId) (below : List Frame) (meth : Method) (c : Code) (T : State), p.tables.exec = Jvm.exec → c.code = bytes → c.maxLocals = maxL → Z.Warmed39 s.vm → s.vm.findClass y.cls = some m.cls → meth.name = y.name → meth.sig.returnType = ret → meth.locks = false →
      Stand p l e rm s m as' below meth c T [] 0 0 → T.heap = h0 → s.heap = h0 → own_Ends p e below (own_Post s Q rm.cells rm.slots) (T.setTop (entryFrame m as' maxL))) : own_Met l y bytes maxL ret rm Z as' h0 Q := by
  intro ws
  refine MetFree.of_bodySF hp hisR ?_
  intro p e s m args below meth c s₁ Bd hml0 hP hK
  obtain ⟨rfl, hZ, hh⟩ := hP
  exact body p e s m below meth c s₁ Bd.exec Bd.bytes hml0 hZ (findClass_of_methodNamed Bd.named) (name_of_methodNamed Bd.named Bd.method).1 Bd.returns (BodyLoose.notSynchronized Bd) (Stand.of_body Bd) (by rw [← hh, Bd.state]; rfl) hh
theorem own_oz {n0 : Nat} (O : Old Z n0 h) : n0 ≤ h.size := O.1 ▸ O.2.1
theorem own_entry {g g' : JFrame} (q : g = g') (h : own_Ends p e below Φ (T.setTop g')) : own_Ends p e below Φ (T.setTop g) := q ▸ h
theorem own_iloadN (X : Stand p l e R s m args below meth c T locs cells slots) (hx : p.tables.exec = Jvm.exec) {pc pc' : Nat} {Ls : Array Slot} {rest : List Value} {k : Fin 4} {v : Int32} (hd : decode c.code pc = .ok (.iload_n k, 1)) (hl : Ls[k.val]? = some (.val (.int v))) (hp : pc + 1 = pc') (h : own_Ends p e below Φ (T.setTop (mkF m pc' Ls (.int v :: rest)))) : own_Ends p e below Φ (T.setTop (mkF m pc Ls (rest))) := by
  subst hp; exact own_via (fun _ k => XS.iloadN X.here hx (g := mkF m pc Ls (rest)) rfl hd hl k) h
theorem own_lloadN (X : Stand p l e R s m args below meth c T locs cells slots) (hx : p.tables.exec = Jvm.exec) {pc pc' : Nat} {Ls : Array Slot} {rest : List Value} {k : Fin 4} {v : Int64} (hd : decode c.code pc = .ok (.lload_n k, 1)) (hl : Ls[k.val]? = some (.val (.long v))) (hp : pc + 1 = pc') (h : own_Ends p e below Φ (T.setTop (mkF m pc' Ls (.long v :: rest)))) : own_Ends p e below Φ (T.setTop (mkF m pc Ls (rest))) := by
  subst hp; exact own_via (fun _ k => XS.lloadN X.here hx (g := mkF m pc Ls (rest)) rfl hd hl k) h
theorem own_aloadN (X : Stand p l e R s m args below meth c T locs cells slots) (hx : p.tables.exec = Jvm.exec) {pc pc' : Nat} {Ls : Array Slot} {rest : List Value} {k : Fin 4} {v : Value} (hd : decode c.code pc = .ok (.aload_n k, 1)) (hl : Ls[k.val]? = some (.val v)) (hv : v.isRef = true) (hp : pc + 1 = pc') (h : own_Ends p e below Φ (T.setTop (mkF m pc' Ls (v :: rest)))) : own_Ends p e below Φ (T.setTop (mkF m pc Ls (rest))) := by
  subst hp; exact own_via (fun _ k => XS.aloadN X.here hx (g := mkF m pc Ls (rest)) rfl hd hl hv k) h
theorem own_istoreN (X : Stand p l e R s m args below meth c T locs cells slots) (hx : p.tables.exec = Jvm.exec) {pc pc' : Nat} {Ls : Array Slot} {rest : List Value} {k : Fin 4} {v : Int32} (Ls' : Array Slot) (hd : decode c.code pc = .ok (.istore_n k, 1)) (hl : storeLocals Ls k.val (.int v) = some Ls') (hp : pc + 1 = pc') (h : own_Ends p e below Φ (T.setTop (mkF m pc' Ls' (rest)))) : own_Ends p e below Φ (T.setTop (mkF m pc Ls (.int v :: rest))) := by
  subst hp; exact own_via (fun _ k => XS.istoreN X.here hx (g := mkF m pc Ls (.int v :: rest)) rfl hd rfl hl k) h
theorem own_lstoreN (X : Stand p l e R s m args below meth c T locs cells slots) (hx : p.tables.exec = Jvm.exec) {pc pc' : Nat} {Ls : Array Slot} {rest : List Value} {k : Fin 4} {v : Int64} (Ls' : Array Slot) (hd : decode c.code pc = .ok (.lstore_n k, 1)) (hl : storeLocals Ls k.val (.long v) = some Ls') (hp : pc + 1 = pc') (h : own_Ends p e below Φ (T.setTop (mkF m pc' Ls' (rest)))) : own_Ends p e below Φ (T.setTop (mkF m pc Ls (.long v :: rest))) := by
  subst hp; exact own_via (fun _ k => XS.lstoreN X.here hx (g := mkF m pc Ls (.long v :: rest)) rfl hd rfl hl k) h
theorem own_astoreN (X : Stand p l e R s m args below meth c T locs cells slots) (hx : p.tables.exec = Jvm.exec) {pc pc' : Nat} {Ls : Array Slot} {rest : List Value} {k : Fin 4} {v : Value} (Ls' : Array Slot) (hd : decode c.code pc = .ok (.astore_n k, 1)) (hv : v.isRef = true) (hl : storeLocals Ls k.val v = some Ls') (hp : pc + 1 = pc') (h : own_Ends p e below Φ (T.setTop (mkF m pc' Ls' (rest)))) : own_Ends p e below Φ (T.setTop (mkF m pc Ls (v :: rest))) := by
  subst hp; exact own_via (fun _ k => XS.astoreN X.here hx (g := mkF m pc Ls (v :: rest)) rfl hd rfl hv hl k) h
theorem own_iload (X : Stand p l e R s m args below meth c T locs cells slots) (hx : p.tables.exec = Jvm.exec) {pc pc' : Nat} {Ls : Array Slot} {rest : List Value} {k : Nat} {v : Int32} (hd : decode c.code pc = .ok (.iload k, 2)) (hl : Ls[k]? = some (.val (.int v))) (hp : pc + 2 = pc') (h : own_Ends p e below Φ (T.setTop (mkF m pc' Ls (.int v :: rest)))) : own_Ends p e below Φ (T.setTop (mkF m pc Ls (rest))) := by
  subst hp; exact own_via (fun _ k => XS.iload X.here hx (g := mkF m pc Ls (rest)) rfl hd hl k) h
theorem own_lload (X : Stand p l e R s m args below meth c T locs cells slots) (hx : p.tables.exec = Jvm.exec) {pc pc' : Nat} {Ls : Array Slot} {rest : List Value} {k : Nat} {v : Int64} (hd : decode c.code pc = .ok (.lload k, 2)) (hl : Ls[k]? = some (.val (.long v))) (hp : pc + 2 = pc') (h : own_Ends p e below Φ (T.setTop (mkF m pc' Ls (.long v :: rest)))) : own_Ends p e below Φ (T.setTop (mkF m pc Ls (rest))) := by
  subst hp; exact own_via (fun _ k => XS.lload X.here hx (g := mkF m pc Ls (rest)) rfl hd hl k) h
theorem own_aload (X : Stand p l e R s m args below meth c T locs cells slots) (hx : p.tables.exec = Jvm.exec) {pc pc' : Nat} {Ls : Array Slot} {rest : List Value} {k : Nat} {v : Value} (hd : decode c.code pc = .ok (.aload k, 2)) (hl : Ls[k]? = some (.val v)) (hv : v.isRef = true) (hp : pc + 2 = pc') (h : own_Ends p e below Φ (T.setTop (mkF m pc' Ls (v :: rest)))) : own_Ends p e below Φ (T.setTop (mkF m pc Ls (rest))) := by
  subst hp; exact own_via (fun _ k => XS.aload X.here hx (g := mkF m pc Ls (rest)) rfl hd hl hv k) h
theorem own_istore (X : Stand p l e R s m args below meth c T locs cells slots) (hx : p.tables.exec = Jvm.exec) {pc pc' : Nat} {Ls : Array Slot} {rest : List Value} {k : Nat} {v : Int32} (Ls' : Array Slot) (hd : decode c.code pc = .ok (.istore k, 2)) (hl : storeLocals Ls k (.int v) = some Ls') (hp : pc + 2 = pc') (h : own_Ends p e below Φ (T.setTop (mkF m pc' Ls' (rest)))) : own_Ends p e below Φ (T.setTop (mkF m pc Ls (.int v :: rest))) := by
  subst hp; exact own_via (fun _ k => XS.istore X.here hx (g := mkF m pc Ls (.int v :: rest)) rfl hd rfl hl k) h
theorem own_lstore (X : Stand p l e R s m args below meth c T locs cells slots) (hx : p.tables.exec = Jvm.exec) {pc pc' : Nat} {Ls : Array Slot} {rest : List Value} {k : Nat} {v : Int64} (Ls' : Array Slot) (hd : decode c.code pc = .ok (.lstore k, 2)) (hl : storeLocals Ls k (.long v) = some Ls') (hp : pc + 2 = pc') (h : own_Ends p e below Φ (T.setTop (mkF m pc' Ls' (rest)))) : own_Ends p e below Φ (T.setTop (mkF m pc Ls (.long v :: rest))) := by
  subst hp; exact own_via (fun _ k => XS.lstore X.here hx (g := mkF m pc Ls (.long v :: rest)) rfl hd rfl hl k) h
theorem own_astore (X : Stand p l e R s m args below meth c T locs cells slots) (hx : p.tables.exec = Jvm.exec) {pc pc' : Nat} {Ls : Array Slot} {rest : List Value} {k : Nat} {v : Value} (Ls' : Array Slot) (hd : decode c.code pc = .ok (.astore k, 2)) (hv : v.isRef = true) (hl : storeLocals Ls k v = some Ls') (hp : pc + 2 = pc') (h : own_Ends p e below Φ (T.setTop (mkF m pc' Ls' (rest)))) : own_Ends p e below Φ (T.setTop (mkF m pc Ls (v :: rest))) := by
  subst hp; exact own_via (fun _ k => XS.astore X.here hx (g := mkF m pc Ls (v :: rest)) rfl hd rfl hv hl k) h
theorem own_iconst (X : Stand p l e R s m args below meth c T locs cells slots) (hx : p.tables.exec = Jvm.exec) {pc pc' : Nat} {Ls : Array Slot} {rest : List Value} {i : Int} (v : Int32) (hd : decode c.code pc = .ok (.iconst i, 1)) (hv : Int32.ofInt i = v) (hp : pc + 1 = pc') (h : own_Ends p e below Φ (T.setTop (mkF m pc' Ls (.int v :: rest)))) : own_Ends p e below Φ (T.setTop (mkF m pc Ls rest)) := by
  subst hp hv; exact own_via (fun _ k => XS.iconst X.here hx (g := mkF m pc Ls rest) rfl hd k) h
theorem own_bipush (X : Stand p l e R s m args below meth c T locs cells slots) (hx : p.tables.exec = Jvm.exec) {pc pc' : Nat} {Ls : Array Slot} {rest : List Value} {i : Int} (v : Int32) (hd : decode c.code pc = .ok (.bipush i, 2)) (hv : (Int8.ofInt i).toInt32 = v) (hp : pc + 2 = pc') (h : own_Ends p e below Φ (T.setTop (mkF m pc' Ls (.int v :: rest)))) : own_Ends p e below Φ (T.setTop (mkF m pc Ls rest)) := by
  subst hp hv; exact own_via (fun _ k => XS.bipush X.here hx (g := mkF m pc Ls rest) rfl hd k) h
theorem own_sipush (X : Stand p l e R s m args below meth c T locs cells slots) (hx : p.tables.exec = Jvm.exec) {pc pc' : Nat} {Ls : Array Slot} {rest : List Value} {i : Int} (v : Int32) (hd : decode c.code pc = .ok (.sipush i, 3)) (hv : (Int16.ofInt i).toInt32 = v) (hp : pc + 3 = pc') (h : own_Ends p e below Φ (T.setTop (mkF m pc' Ls (.int v :: rest)))) : own_Ends p e below Φ (T.setTop (mkF m pc Ls rest)) := by
  subst hp hv; exact own_via (fun _ k => XS.sipush X.here hx (g := mkF m pc Ls rest) rfl hd k) h
theorem own_lconst (X : Stand p l e R s m args below meth c T locs cells slots) (hx : p.tables.exec = Jvm.exec) {pc pc' : Nat} {Ls : Array Slot} {rest : List Value} {i : Fin 2} (v : Int64) (hd : decode c.code pc = .ok (.lconst i, 1)) (hv : Int64.ofNat i = v) (hp : pc + 1 = pc') (h : own_Ends p e below Φ (T.setTop (mkF m pc' Ls (.long v :: rest)))) : own_Ends p e below Φ (T.setTop (mkF m pc Ls rest)) := by
  subst hp hv; exact own_via (fun _ k => XS.lconst X.here hx (g := mkF m pc Ls rest) rfl hd k) h
theorem own_aconst_null (X : Stand p l e R s m args below meth c T locs cells slots) (hx : p.tables.exec = Jvm.exec) {pc pc' : Nat} {Ls : Array Slot} {rest : List Value}  (hd : decode c.code pc = .ok (.aconst_null, 1))  (hp : pc + 1 = pc') (h : own_Ends p e below Φ (T.setTop (mkF m pc' Ls (.null :: rest)))) : own_Ends p e below Φ (T.setTop (mkF m pc Ls (rest))) := by
  subst hp; exact own_via (fun _ k => XS.aconstNull X.here hx (g := mkF m pc Ls (rest)) rfl hd  k) h
theorem own_iadd (X : Stand p l e R s m args below meth c T locs cells slots) (hx : p.tables.exec = Jvm.exec) {pc pc' : Nat} {Ls : Array Slot} {rest : List Value} {x y : Int32} (hd : decode c.code pc = .ok (.iadd, 1))  (hp : pc + 1 = pc') (h : own_Ends p e below Φ (T.setTop (mkF m pc' Ls (.int (x + y) :: rest)))) : own_Ends p e below Φ (T.setTop (mkF m pc Ls (.int y :: .int x :: rest))) := by
  subst hp; exact own_via (fun _ k => XS.iadd X.here hx (g := mkF m pc Ls (.int y :: .int x :: rest)) rfl hd rfl k) h
theorem own_isub (X : Stand p l e R s m args below meth c T locs cells slots) (hx : p.tables.exec = Jvm.exec) {pc pc' : Nat} {Ls : Array Slot} {rest : List Value} {x y : Int32} (hd : decode c.code pc = .ok (.isub, 1))  (hp : pc + 1 = pc') (h : own_Ends p e below Φ (T.setTop (mkF m pc' Ls (.int (x - y) :: rest)))) : own_Ends p e below Φ (T.setTop (mkF m pc Ls (.int y :: .int x :: rest))) := by
  subst hp; exact own_via (fun _ k => XS.isub X.here hx (g := mkF m pc Ls (.int y :: .int x :: rest)) rfl hd rfl k) h
theorem own_imul (X : Stand p l e R s m args below meth c T locs cells slots) (hx : p.tables.exec = Jvm.exec) {pc pc' : Nat} {Ls : Array Slot} {rest : List Value} {x y : Int32} (hd : decode c.code pc = .ok (.imul, 1))  (hp : pc + 1 = pc') (h : own_Ends p e below Φ (T.setTop (mkF m pc' Ls (.int (x * y) :: rest)))) : own_Ends p e below Φ (T.setTop (mkF m pc Ls (.int y :: .int x :: rest))) := by
  subst hp; exact own_via (fun _ k => XS.imul X.here hx (g := mkF m pc Ls (.int y :: .int x :: rest)) rfl hd rfl k) h
theorem own_iand (X : Stand p l e R s m args below meth c T locs cells slots) (hx : p.tables.exec = Jvm.exec) {pc pc' : Nat} {Ls : Array Slot} {rest : List Value} {x y : Int32} (hd : decode c.code pc = .ok (.iand, 1))  (hp : pc + 1 = pc') (h : own_Ends p e below Φ (T.setTop (mkF m pc' Ls (.int (x &&& y) :: rest)))) : own_Ends p e below Φ (T.setTop (mkF m pc Ls (.int y :: .int x :: rest))) := by
  subst hp; exact own_via (fun _ k => XS.iand X.here hx (g := mkF m pc Ls (.int y :: .int x :: rest)) rfl hd rfl k) h
theorem own_ior (X : Stand p l e R s m args below meth c T locs cells slots) (hx : p.tables.exec = Jvm.exec) {pc pc' : Nat} {Ls : Array Slot} {rest : List Value} {x y : Int32} (hd : decode c.code pc = .ok (.ior, 1))  (hp : pc + 1 = pc') (h : own_Ends p e below Φ (T.setTop (mkF m pc' Ls (.int (x ||| y) :: rest)))) : own_Ends p e below Φ (T.setTop (mkF m pc Ls (.int y :: .int x :: rest))) := by
  subst hp; exact own_via (fun _ k => XS.ior X.here hx (g := mkF m pc Ls (.int y :: .int x :: rest)) rfl hd rfl k) h
theorem own_ixor (X : Stand p l e R s m args below meth c T locs cells slots) (hx : p.tables.exec = Jvm.exec) {pc pc' : Nat} {Ls : Array Slot} {rest : List Value} {x y : Int32} (hd : decode c.code pc = .ok (.ixor, 1))  (hp : pc + 1 = pc') (h : own_Ends p e below Φ (T.setTop (mkF m pc' Ls (.int (x ^^^ y) :: rest)))) : own_Ends p e below Φ (T.setTop (mkF m pc Ls (.int y :: .int x :: rest))) := by
  subst hp; exact own_via (fun _ k => XS.ixor X.here hx (g := mkF m pc Ls (.int y :: .int x :: rest)) rfl hd rfl k) h
theorem own_ishl (X : Stand p l e R s m args below meth c T locs cells slots) (hx : p.tables.exec = Jvm.exec) {pc pc' : Nat} {Ls : Array Slot} {rest : List Value} {x y : Int32} (hd : decode c.code pc = .ok (.ishl, 1))  (hp : pc + 1 = pc') (h : own_Ends p e below Φ (T.setTop (mkF m pc' Ls (.int (x <<< (y &&& 31)) :: rest)))) : own_Ends p e below Φ (T.setTop (mkF m pc Ls (.int y :: .int x :: rest))) := by
  subst hp; exact own_via (fun _ k => XS.ishl X.here hx (g := mkF m pc Ls (.int y :: .int x :: rest)) rfl hd rfl k) h
theorem own_ishr (X : Stand p l e R s m args below meth c T locs cells slots) (hx : p.tables.exec = Jvm.exec) {pc pc' : Nat} {Ls : Array Slot} {rest : List Value} {x y : Int32} (hd : decode c.code pc = .ok (.ishr, 1))  (hp : pc + 1 = pc') (h : own_Ends p e below Φ (T.setTop (mkF m pc' Ls (.int (x >>> (y &&& 31)) :: rest)))) : own_Ends p e below Φ (T.setTop (mkF m pc Ls (.int y :: .int x :: rest))) := by
  subst hp; exact own_via (fun _ k => XS.ishr X.here hx (g := mkF m pc Ls (.int y :: .int x :: rest)) rfl hd rfl k) h
theorem own_iushr (X : Stand p l e R s m args below meth c T locs cells slots) (hx : p.tables.exec = Jvm.exec) {pc pc' : Nat} {Ls : Array Slot} {rest : List Value} {x y : Int32} (hd : decode c.code pc = .ok (.iushr, 1))  (hp : pc + 1 = pc') (h : own_Ends p e below Φ (T.setTop (mkF m pc' Ls (.int (own_ushr x y) :: rest)))) : own_Ends p e below Φ (T.setTop (mkF m pc Ls (.int y :: .int x :: rest))) := by
  subst hp; exact own_via (fun _ k => XS.iushr X.here hx (g := mkF m pc Ls (.int y :: .int x :: rest)) rfl hd rfl k) h
theorem own_ladd (X : Stand p l e R s m args below meth c T locs cells slots) (hx : p.tables.exec = Jvm.exec) {pc pc' : Nat} {Ls : Array Slot} {rest : List Value} {x y : Int64} (hd : decode c.code pc = .ok (.ladd, 1))  (hp : pc + 1 = pc') (h : own_Ends p e below Φ (T.setTop (mkF m pc' Ls (.long (x + y) :: rest)))) : own_Ends p e below Φ (T.setTop (mkF m pc Ls (.long y :: .long x :: rest))) := by
  subst hp; exact own_via (fun _ k => XS.ladd X.here hx (g := mkF m pc Ls (.long y :: .long x :: rest)) rfl hd rfl k) h
theorem own_lsub (X : Stand p l e R s m args below meth c T locs cells slots) (hx : p.tables.exec = Jvm.exec) {pc pc' : Nat} {Ls : Array Slot} {rest : List Value} {x y : Int64} (hd : decode c.code pc = .ok (.lsub, 1))  (hp : pc + 1 = pc') (h : own_Ends p e below Φ (T.setTop (mkF m pc' Ls (.long (x - y) :: rest)))) : own_Ends p e below Φ (T.setTop (mkF m pc Ls (.long y :: .long x :: rest))) := by
  subst hp; exact own_via (fun _ k => XS.lsub X.here hx (g := mkF m pc Ls (.long y :: .long x :: rest)) rfl hd rfl k) h
theorem own_lmul (X : Stand p l e R s m args below meth c T locs cells slots) (hx : p.tables.exec = Jvm.exec) {pc pc' : Nat} {Ls : Array Slot} {rest : List Value} {x y : Int64} (hd : decode c.code pc = .ok (.lmul, 1))  (hp : pc + 1 = pc') (h : own_Ends p e below Φ (T.setTop (mkF m pc' Ls (.long (x * y) :: rest)))) : own_Ends p e below Φ (T.setTop (mkF m pc Ls (.long y :: .long x :: rest))) := by
  subst hp; exact own_via (fun _ k => XS.lmul X.here hx (g := mkF m pc Ls (.long y :: .long x :: rest)) rfl hd rfl k) h
theorem own_land (X : Stand p l e R s m args below meth c T locs cells slots) (hx : p.tables.exec = Jvm.exec) {pc pc' : Nat} {Ls : Array Slot} {rest : List Value} {x y : Int64} (hd : decode c.code pc = .ok (.land, 1))  (hp : pc + 1 = pc') (h : own_Ends p e below Φ (T.setTop (mkF m pc' Ls (.long (x &&& y) :: rest)))) : own_Ends p e below Φ (T.setTop (mkF m pc Ls (.long y :: .long x :: rest))) := by
  subst hp; exact own_via (fun _ k => XS.land X.here hx (g := mkF m pc Ls (.long y :: .long x :: rest)) rfl hd rfl k) h
theorem own_lor (X : Stand p l e R s m args below meth c T locs cells slots) (hx : p.tables.exec = Jvm.exec) {pc pc' : Nat} {Ls : Array Slot} {rest : List Value} {x y : Int64} (hd : decode c.code pc = .ok (.lor, 1))  (hp : pc + 1 = pc') (h : own_Ends p e below Φ (T.setTop (mkF m pc' Ls (.long (x ||| y) :: rest)))) : own_Ends p e below Φ (T.setTop (mkF m pc Ls (.long y :: .long x :: rest))) := by
  subst hp; exact own_via (fun _ k => XS.lor X.here hx (g := mkF m pc Ls (.long y :: .long x :: rest)) rfl hd rfl k) h
theorem own_lxor (X : Stand p l e R s m args below meth c T locs cells slots) (hx : p.tables.exec = Jvm.exec) {pc pc' : Nat} {Ls : Array Slot} {rest : List Value} {x y : Int64} (hd : decode c.code pc = .ok (.lxor, 1))  (hp : pc + 1 = pc') (h : own_Ends p e below Φ (T.setTop (mkF m pc' Ls (.long (x ^^^ y) :: rest)))) : own_Ends p e below Φ (T.setTop (mkF m pc Ls (.long y :: .long x :: rest))) := by
  subst hp; exact own_via (fun _ k => XS.lxor X.here hx (g := mkF m pc Ls (.long y :: .long x :: rest)) rfl hd rfl k) h
theorem own_lshl (X : Stand p l e R s m args below meth c T locs cells slots) (hx : p.tables.exec = Jvm.exec) {pc pc' : Nat} {Ls : Array Slot} {rest : List Value} {x : Int64} {y : Int32} (hd : decode c.code pc = .ok (.lshl, 1))  (hp : pc + 1 = pc') (h : own_Ends p e below Φ (T.setTop (mkF m pc' Ls (.long (x <<< (y &&& 0x3f).toInt64) :: rest)))) : own_Ends p e below Φ (T.setTop (mkF m pc Ls (.int y :: .long x :: rest))) := by
  subst hp; exact own_via (fun _ k => XS.lshl X.here hx (g := mkF m pc Ls (.int y :: .long x :: rest)) rfl hd rfl k) h
theorem own_lshr (X : Stand p l e R s m args below meth c T locs cells slots) (hx : p.tables.exec = Jvm.exec) {pc pc' : Nat} {Ls : Array Slot} {rest : List Value} {x : Int64} {y : Int32} (hd : decode c.code pc = .ok (.lshr, 1))  (hp : pc + 1 = pc') (h : own_Ends p e below Φ (T.setTop (mkF m pc' Ls (.long (x >>> (y &&& 0x3f).toInt64) :: rest)))) : own_Ends p e below Φ (T.setTop (mkF m pc Ls (.int y :: .long x :: rest))) := by
  subst hp; exact own_via (fun _ k => XS.lshr X.here hx (g := mkF m pc Ls (.int y :: .long x :: rest)) rfl hd rfl k) h
theorem own_lushr (X : Stand p l e R s m args below meth c T locs cells slots) (hx : p.tables.exec = Jvm.exec) {pc pc' : Nat} {Ls : Array Slot} {rest : List Value} {x : Int64} {y : Int32} (hd : decode c.code pc = .ok (.lushr, 1))  (hp : pc + 1 = pc') (h : own_Ends p e below Φ (T.setTop (mkF m pc' Ls (.long (own_ushrL x y) :: rest)))) : own_Ends p e below Φ (T.setTop (mkF m pc Ls (.int y :: .long x :: rest))) := by
  subst hp; exact own_via (fun _ k => XS.lushr X.here hx (g := mkF m pc Ls (.int y :: .long x :: rest)) rfl hd rfl k) h
theorem own_idiv (X : Stand p l e R s m args below meth c T locs cells slots) (hx : p.tables.exec = Jvm.exec) {pc pc' : Nat} {Ls : Array Slot} {rest : List Value} {x y : Int32} (hd : decode c.code pc = .ok (.idiv, 1)) (hy : y ≠ 0) (hp : pc + 1 = pc') (h : own_Ends p e below Φ (T.setTop (mkF m pc' Ls (.int (x / y) :: rest)))) : own_Ends p e below Φ (T.setTop (mkF m pc Ls (.int y :: .int x :: rest))) := by
  subst hp; exact own_via (fun _ k => XS.idiv X.here hx (g := mkF m pc Ls (.int y :: .int x :: rest)) rfl hd rfl hy k) h
theorem own_irem (X : Stand p l e R s m args below meth c T locs cells slots) (hx : p.tables.exec = Jvm.exec) {pc pc' : Nat} {Ls : Array Slot} {rest : List Value} {x y : Int32} (hd : decode c.code pc = .ok (.irem, 1)) (hy : y ≠ 0) (hp : pc + 1 = pc') (h : own_Ends p e below Φ (T.setTop (mkF m pc' Ls (.int (x % y) :: rest)))) : own_Ends p e below Φ (T.setTop (mkF m pc Ls (.int y :: .int x :: rest))) := by
  subst hp; exact own_via (fun _ k => iremM X hx (g := mkF m pc Ls (.int y :: .int x :: rest)) rfl hd rfl hy k) h
theorem own_ineg (X : Stand p l e R s m args below meth c T locs cells slots) (hx : p.tables.exec = Jvm.exec) {pc pc' : Nat} {Ls : Array Slot} {rest : List Value} {x : Int32} (hd : decode c.code pc = .ok (.ineg, 1))  (hp : pc + 1 = pc') (h : own_Ends p e below Φ (T.setTop (mkF m pc' Ls (.int (-x) :: rest)))) : own_Ends p e below Φ (T.setTop (mkF m pc Ls (.int x :: rest))) := by
  subst hp; exact own_via (fun _ k => XS.ineg X.here hx (g := mkF m pc Ls (.int x :: rest)) rfl hd rfl k) h
theorem own_lneg (X : Stand p l e R s m args below meth c T locs cells slots) (hx : p.tables.exec = Jvm.exec) {pc pc' : Nat} {Ls : Array Slot} {rest : List Value} {x : Int64} (hd : decode c.code pc = .ok (.lneg, 1))  (hp : pc + 1 = pc') (h : own_Ends p e below Φ (T.setTop (mkF m pc' Ls (.long (-x) :: rest)))) : own_Ends p e below Φ (T.setTop (mkF m pc Ls (.long x :: rest))) := by
  subst hp; exact own_via (fun _ k => XS.lneg X.here hx (g := mkF m pc Ls (.long x :: rest)) rfl hd rfl k) h
theorem own_i2l (X : Stand p l e R s m args below meth c T locs cells slots) (hx : p.tables.exec = Jvm.exec) {pc pc' : Nat} {Ls : Array Slot} {rest : List Value} {x : Int32} (hd : decode c.code pc = .ok (.i2l, 1))  (hp : pc + 1 = pc') (h : own_Ends p e below Φ (T.setTop (mkF m pc' Ls (.long (x.toInt64) :: rest)))) : own_Ends p e below Φ (T.setTop (mkF m pc Ls (.int x :: rest))) := by
  subst hp; exact own_via (fun _ k => XS.i2l X.here hx (g := mkF m pc Ls (.int x :: rest)) rfl hd rfl k) h
theorem own_l2i (X : Stand p l e R s m args below meth c T locs cells slots) (hx : p.tables.exec = Jvm.exec) {pc pc' : Nat} {Ls : Array Slot} {rest : List Value} {x : Int64} (hd : decode c.code pc = .ok (.l2i, 1))  (hp : pc + 1 = pc') (h : own_Ends p e below Φ (T.setTop (mkF m pc' Ls (.int (x.toInt32) :: rest)))) : own_Ends p e below Φ (T.setTop (mkF m pc Ls (.long x :: rest))) := by
  subst hp; exact own_via (fun _ k => XS.l2i X.here hx (g := mkF m pc Ls (.long x :: rest)) rfl hd rfl k) h
theorem own_i2b (X : Stand p l e R s m args below meth c T locs cells slots) (hx : p.tables.exec = Jvm.exec) {pc pc' : Nat} {Ls : Array Slot} {rest : List Value} {x : Int32} (hd : decode c.code pc = .ok (.i2b, 1))  (hp : pc + 1 = pc') (h : own_Ends p e below Φ (T.setTop (mkF m pc' Ls (.int (x.toInt8.toInt32) :: rest)))) : own_Ends p e below Φ (T.setTop (mkF m pc Ls (.int x :: rest))) := by
  subst hp; exact own_via (fun _ k => XS.i2b X.here hx (g := mkF m pc Ls (.int x :: rest)) rfl hd rfl k) h
theorem own_i2c (X : Stand p l e R s m args below meth c T locs cells slots) (hx : p.tables.exec = Jvm.exec) {pc pc' : Nat} {Ls : Array Slot} {rest : List Value} {x : Int32} (hd : decode c.code pc = .ok (.i2c, 1))  (hp : pc + 1 = pc') (h : own_Ends p e below Φ (T.setTop (mkF m pc' Ls (.int (x.toUInt32.toUInt16.toUInt32.toInt32) :: rest)))) : own_Ends p e below Φ (T.setTop (mkF m pc Ls (.int x :: rest))) := by
  subst hp; exact own_via (fun _ k => XS.i2c X.here hx (g := mkF m pc Ls (.int x :: rest)) rfl hd rfl k) h
theorem own_i2s (X : Stand p l e R s m args below meth c T locs cells slots) (hx : p.tables.exec = Jvm.exec) {pc pc' : Nat} {Ls : Array Slot} {rest : List Value} {x : Int32} (hd : decode c.code pc = .ok (.i2s, 1))  (hp : pc + 1 = pc') (h : own_Ends p e below Φ (T.setTop (mkF m pc' Ls (.int (x.toInt16.toInt32) :: rest)))) : own_Ends p e below Φ (T.setTop (mkF m pc Ls (.int x :: rest))) := by
  subst hp; exact own_via (fun _ k => XS.i2s X.here hx (g := mkF m pc Ls (.int x :: rest)) rfl hd rfl k) h
theorem own_lcmp (X : Stand p l e R s m args below meth c T locs cells slots) (hx : p.tables.exec = Jvm.exec) {pc pc' : Nat} {Ls : Array Slot} {rest : List Value} {x y : Int64} (hd : decode c.code pc = .ok (.lcmp, 1))  (hp : pc + 1 = pc') (h : own_Ends p e below Φ (T.setTop (mkF m pc' Ls (.int (lcmpW x y) :: rest)))) : own_Ends p e below Φ (T.setTop (mkF m pc Ls (.long y :: .long x :: rest))) := by
  subst hp; exact own_via (fun _ k => XS.lcmp X.here hx (g := mkF m pc Ls (.long y :: .long x :: rest)) rfl hd rfl k) h
theorem own_dup (X : Stand p l e R s m args below meth c T locs cells slots) (hx : p.tables.exec = Jvm.exec) {pc pc' : Nat} {Ls : Array Slot} {rest : List Value} {x : Value} (hd : decode c.code pc = .ok (.dup, 1)) (hc : x.category = 1) (hp : pc + 1 = pc') (h : own_Ends p e below Φ (T.setTop (mkF m pc' Ls (x :: x :: rest)))) : own_Ends p e below Φ (T.setTop (mkF m pc Ls (x :: rest))) := by
  subst hp; exact own_via (fun _ k => XS.dup X.here hx (g := mkF m pc Ls (x :: rest)) rfl hd rfl hc k) h
theorem own_pop (X : Stand p l e R s m args below meth c T locs cells slots) (hx : p.tables.exec = Jvm.exec) {pc pc' : Nat} {Ls : Array Slot} {rest : List Value} {x : Value} (hd : decode c.code pc = .ok (.pop, 1)) (hc : x.category = 1) (hp : pc + 1 = pc') (h : own_Ends p e below Φ (T.setTop (mkF m pc' Ls (rest)))) : own_Ends p e below Φ (T.setTop (mkF m pc Ls (x :: rest))) := by
  subst hp; exact own_via (fun _ k => XS.pop X.here hx (g := mkF m pc Ls (x :: rest)) rfl hd rfl hc k) h
theorem own_dup_x1 (X : Stand p l e R s m args below meth c T locs cells slots) (hx : p.tables.exec = Jvm.exec) {pc pc' : Nat} {Ls : Array Slot} {rest : List Value} {x y : Value} (hd : decode c.code pc = .ok (.dup_x1, 1)) (hc : x.category = 1) (hc' : y.category = 1) (hp : pc + 1 = pc') (h : own_Ends p e below Φ (T.setTop (mkF m pc' Ls (x :: y :: x :: rest)))) : own_Ends p e below Φ (T.setTop (mkF m pc Ls (x :: y :: rest))) := by
  subst hp; exact own_via (fun _ k => XS.dupX1 X.here hx (g := mkF m pc Ls (x :: y :: rest)) rfl hd rfl hc hc' k) h
theorem own_iinc (X : Stand p l e R s m args below meth c T locs cells slots) (hx : p.tables.exec = Jvm.exec) {pc pc' : Nat} {Ls : Array Slot} {rest : List Value} {k : Nat} {cst : Int} {x : Int32} (Ls' : Array Slot) (hd : decode c.code pc = .ok (.iinc k cst, 3)) (hl : Ls[k]? = some (.val (.int x))) (hl' : storeLocals Ls k (.int (x + Int32.ofInt cst)) = some Ls') (hp : pc + 3 = pc') (h : own_Ends p e below Φ (T.setTop (mkF m pc' Ls' rest))) : own_Ends p e below Φ (T.setTop (mkF m pc Ls rest)) := by
  subst hp; exact own_via (fun _ k => XS.iinc X.here hx (g := mkF m pc Ls rest) rfl hd hl hl' k) h
theorem own_goto (X : Stand p l e R s m args below meth c T locs cells slots) (hx : p.tables.exec = Jvm.exec) {pc pc' : Nat} {Ls : Array Slot} {rest : List Value} {o : Int} (hd : decode c.code pc = .ok (.goto o, 3)) (ho : 0 ≤ (pc : Int) + o) (hp : ((pc : Int) + o).toNat = pc') (h : own_Ends p e below Φ (T.setTop (mkF m pc' Ls rest))) : own_Ends p e below Φ (T.setTop (mkF m pc Ls rest)) := own_via (fun _ k => XS.goto X.here hx (g := mkF m pc Ls rest) rfl (pc0 := pc) (pc' := pc') rfl hd ho hp k) h
theorem own_icmp_eq (X : Stand p l e R s m args below meth c T locs cells slots) (hx : p.tables.exec = Jvm.exec) {pc pcT pcF : Nat} {Ls : Array Slot} {rest : List Value} {x y : Int32} {o : Int} (hd : decode c.code pc = .ok (.if_icmp .eq o, 3)) (ho : 0 ≤ (pc : Int) + o) (hT : ((pc : Int) + o).toNat = pcT) (hF : pc + 3 = pcF) (kT : x = y → own_Ends p e below Φ (T.setTop (mkF m pcT Ls rest))) (kF : ¬ x = y → own_Ends p e below Φ (T.setTop (mkF m pcF Ls rest))) : own_Ends p e below Φ (T.setTop (mkF m pc Ls (.int y :: .int x :: rest))) := by
  subst hF; by_cases q : x = y
  · exact own_via (fun _ k => XS.icmpYes X.here hx (g := mkF m pc Ls (.int y :: .int x :: rest)) rfl (pc0 := pc) (pc' := pcT) rfl hd rfl (teq q).1 ho hT k) (kT q)
  · exact own_via (fun _ k => XS.icmpNo X.here hx (g := mkF m pc Ls (.int y :: .int x :: rest)) rfl hd rfl (feq q).1 k) (kF q)
theorem own_if_eq (X : Stand p l e R s m args below meth c T locs cells slots) (hx : p.tables.exec = Jvm.exec) {pc pcT pcF : Nat} {Ls : Array Slot} {rest : List Value} {x : Int32} {o : Int} (hd : decode c.code pc = .ok (.ifCond .eq o, 3)) (ho : 0 ≤ (pc : Int) + o) (hT : ((pc : Int) + o).toNat = pcT) (hF : pc + 3 = pcF) (kT : x = (0 : Int32) → own_Ends p e below Φ (T.setTop (mkF m pcT Ls rest))) (kF : ¬ x = (0 : Int32) → own_Ends p e below Φ (T.setTop (mkF m pcF Ls rest))) : own_Ends p e below Φ (T.setTop (mkF m pc Ls (.int x :: rest))) := by
  subst hF; by_cases q : x = (0 : Int32)
  · exact own_via (fun _ k => XS.ifYes X.here hx (g := mkF m pc Ls (.int x :: rest)) rfl (pc0 := pc) (pc' := pcT) rfl hd rfl ((if0 _ _).trans (teq q).1) ho hT k) (kT q)
  · exact own_via (fun _ k => XS.ifNo X.here hx (g := mkF m pc Ls (.int x :: rest)) rfl hd rfl ((if0 _ _).trans (feq q).1) k) (kF q)
theorem own_icmp_ne (X : Stand p l e R s m args below meth c T locs cells slots) (hx : p.tables.exec = Jvm.exec) {pc pcT pcF : Nat} {Ls : Array Slot} {rest : List Value} {x y : Int32} {o : Int} (hd : decode c.code pc = .ok (.if_icmp .ne o, 3)) (ho : 0 ≤ (pc : Int) + o) (hT : ((pc : Int) + o).toNat = pcT) (hF : pc + 3 = pcF) (kT : ¬ x = y → own_Ends p e below Φ (T.setTop (mkF m pcT Ls rest))) (kF : x = y → own_Ends p e below Φ (T.setTop (mkF m pcF Ls rest))) : own_Ends p e below Φ (T.setTop (mkF m pc Ls (.int y :: .int x :: rest))) := by
  subst hF; by_cases q : x = y
  · exact own_via (fun _ k => XS.icmpNo X.here hx (g := mkF m pc Ls (.int y :: .int x :: rest)) rfl hd rfl (teq q).2 k) (kF q)
  · exact own_via (fun _ k => XS.icmpYes X.here hx (g := mkF m pc Ls (.int y :: .int x :: rest)) rfl (pc0 := pc) (pc' := pcT) rfl hd rfl (feq q).2 ho hT k) (kT q)
theorem own_if_ne (X : Stand p l e R s m args below meth c T locs cells slots) (hx : p.tables.exec = Jvm.exec) {pc pcT pcF : Nat} {Ls : Array Slot} {rest : List Value} {x : Int32} {o : Int} (hd : decode c.code pc = .ok (.ifCond .ne o, 3)) (ho : 0 ≤ (pc : Int) + o) (hT : ((pc : Int) + o).toNat = pcT) (hF : pc + 3 = pcF) (kT : ¬ x = (0 : Int32) → own_Ends p e below Φ (T.setTop (mkF m pcT Ls rest))) (kF : x = (0 : Int32) → own_Ends p e below Φ (T.setTop (mkF m pcF Ls rest))) : own_Ends p e below Φ (T.setTop (mkF m pc Ls (.int x :: rest))) := by
  subst hF; by_cases q : x = (0 : Int32)
  · exact own_via (fun _ k => XS.ifNo X.here hx (g := mkF m pc Ls (.int x :: rest)) rfl hd rfl ((if0 _ _).trans (teq q).2) k) (kF q)
  · exact own_via (fun _ k => XS.ifYes X.here hx (g := mkF m pc Ls (.int x :: rest)) rfl (pc0 := pc) (pc' := pcT) rfl hd rfl ((if0 _ _).trans (feq q).2) ho hT k) (kT q)
theorem own_icmp_lt (X : Stand p l e R s m args below meth c T locs cells slots) (hx : p.tables.exec = Jvm.exec) {pc pcT pcF : Nat} {Ls : Array Slot} {rest : List Value} {x y : Int32} {o : Int} (hd : decode c.code pc = .ok (.if_icmp .lt o, 3)) (ho : 0 ≤ (pc : Int) + o) (hT : ((pc : Int) + o).toNat = pcT) (hF : pc + 3 = pcF) (kT : x < y → own_Ends p e below Φ (T.setTop (mkF m pcT Ls rest))) (kF : ¬ x < y → own_Ends p e below Φ (T.setTop (mkF m pcF Ls rest))) : own_Ends p e below Φ (T.setTop (mkF m pc Ls (.int y :: .int x :: rest))) := by
  subst hF; by_cases q : x < y
  · exact own_via (fun _ k => XS.icmpYes X.here hx (g := mkF m pc Ls (.int y :: .int x :: rest)) rfl (pc0 := pc) (pc' := pcT) rfl hd rfl (tlt q).1 ho hT k) (kT q)
  · exact own_via (fun _ k => XS.icmpNo X.here hx (g := mkF m pc Ls (.int y :: .int x :: rest)) rfl hd rfl (flt q).1 k) (kF q)
theorem own_if_lt (X : Stand p l e R s m args below meth c T locs cells slots) (hx : p.tables.exec = Jvm.exec) {pc pcT pcF : Nat} {Ls : Array Slot} {rest : List Value} {x : Int32} {o : Int} (hd : decode c.code pc = .ok (.ifCond .lt o, 3)) (ho : 0 ≤ (pc : Int) + o) (hT : ((pc : Int) + o).toNat = pcT) (hF : pc + 3 = pcF) (kT : x < (0 : Int32) → own_Ends p e below Φ (T.setTop (mkF m pcT Ls rest))) (kF : ¬ x < (0 : Int32) → own_Ends p e below Φ (T.setTop (mkF m pcF Ls rest))) : own_Ends p e below Φ (T.setTop (mkF m pc Ls (.int x :: rest))) := by
  subst hF; by_cases q : x < (0 : Int32)
  · exact own_via (fun _ k => XS.ifYes X.here hx (g := mkF m pc Ls (.int x :: rest)) rfl (pc0 := pc) (pc' := pcT) rfl hd rfl ((if0 _ _).trans (tlt q).1) ho hT k) (kT q)
  · exact own_via (fun _ k => XS.ifNo X.here hx (g := mkF m pc Ls (.int x :: rest)) rfl hd rfl ((if0 _ _).trans (flt q).1) k) (kF q)
theorem own_icmp_ge (X : Stand p l e R s m args below meth c T locs cells slots) (hx : p.tables.exec = Jvm.exec) {pc pcT pcF : Nat} {Ls : Array Slot} {rest : List Value} {x y : Int32} {o : Int} (hd : decode c.code pc = .ok (.if_icmp .ge o, 3)) (ho : 0 ≤ (pc : Int) + o) (hT : ((pc : Int) + o).toNat = pcT) (hF : pc + 3 = pcF) (kT : ¬ x < y → own_Ends p e below Φ (T.setTop (mkF m pcT Ls rest))) (kF : x < y → own_Ends p e below Φ (T.setTop (mkF m pcF Ls rest))) : own_Ends p e below Φ (T.setTop (mkF m pc Ls (.int y :: .int x :: rest))) := by
  subst hF; by_cases q : x < y
  · exact own_via (fun _ k => XS.icmpNo X.here hx (g := mkF m pc Ls (.int y :: .int x :: rest)) rfl hd rfl (tlt q).2.1 k) (kF q)
  · exact own_via (fun _ k => XS.icmpYes X.here hx (g := mkF m pc Ls (.int y :: .int x :: rest)) rfl (pc0 := pc) (pc' := pcT) rfl hd rfl (flt q).2.1 ho hT k) (kT q)
theorem own_if_ge (X : Stand p l e R s m args below meth c T locs cells slots) (hx : p.tables.exec = Jvm.exec) {pc pcT pcF : Nat} {Ls : Array Slot} {rest : List Value} {x : Int32} {o : Int} (hd : decode c.code pc = .ok (.ifCond .ge o, 3)) (ho : 0 ≤ (pc : Int) + o) (hT : ((pc : Int) + o).toNat = pcT) (hF : pc + 3 = pcF) (kT : ¬ x < (0 : Int32) → own_Ends p e below Φ (T.setTop (mkF m pcT Ls rest))) (kF : x < (0 : Int32) → own_Ends p e below Φ (T.setTop (mkF m pcF Ls rest))) : own_Ends p e below Φ (T.setTop (mkF m pc Ls (.int x :: rest))) := by
  subst hF; by_cases q : x < (0 : Int32)
  · exact own_via (fun _ k => XS.ifNo X.here hx (g := mkF m pc Ls (.int x :: rest)) rfl hd rfl ((if0 _ _).trans (tlt q).2.1) k) (kF q)
  · exact own_via (fun _ k => XS.ifYes X.here hx (g := mkF m pc Ls (.int x :: rest)) rfl (pc0 := pc) (pc' := pcT) rfl hd rfl ((if0 _ _).trans (flt q).2.1) ho hT k) (kT q)
theorem own_icmp_gt (X : Stand p l e R s m args below meth c T locs cells slots) (hx : p.tables.exec = Jvm.exec) {pc pcT pcF : Nat} {Ls : Array Slot} {rest : List Value} {x y : Int32} {o : Int} (hd : decode c.code pc = .ok (.if_icmp .gt o, 3)) (ho : 0 ≤ (pc : Int) + o) (hT : ((pc : Int) + o).toNat = pcT) (hF : pc + 3 = pcF) (kT : y < x → own_Ends p e below Φ (T.setTop (mkF m pcT Ls rest))) (kF : ¬ y < x → own_Ends p e below Φ (T.setTop (mkF m pcF Ls rest))) : own_Ends p e below Φ (T.setTop (mkF m pc Ls (.int y :: .int x :: rest))) := by
  subst hF; by_cases q : y < x
  · exact own_via (fun _ k => XS.icmpYes X.here hx (g := mkF m pc Ls (.int y :: .int x :: rest)) rfl (pc0 := pc) (pc' := pcT) rfl hd rfl (tlt q).2.2.1 ho hT k) (kT q)
  · exact own_via (fun _ k => XS.icmpNo X.here hx (g := mkF m pc Ls (.int y :: .int x :: rest)) rfl hd rfl (flt q).2.2.1 k) (kF q)
theorem own_if_gt (X : Stand p l e R s m args below meth c T locs cells slots) (hx : p.tables.exec = Jvm.exec) {pc pcT pcF : Nat} {Ls : Array Slot} {rest : List Value} {x : Int32} {o : Int} (hd : decode c.code pc = .ok (.ifCond .gt o, 3)) (ho : 0 ≤ (pc : Int) + o) (hT : ((pc : Int) + o).toNat = pcT) (hF : pc + 3 = pcF) (kT : (0 : Int32) < x → own_Ends p e below Φ (T.setTop (mkF m pcT Ls rest))) (kF : ¬ (0 : Int32) < x → own_Ends p e below Φ (T.setTop (mkF m pcF Ls rest))) : own_Ends p e below Φ (T.setTop (mkF m pc Ls (.int x :: rest))) := by
  subst hF; by_cases q : (0 : Int32) < x
  · exact own_via (fun _ k => XS.ifYes X.here hx (g := mkF m pc Ls (.int x :: rest)) rfl (pc0 := pc) (pc' := pcT) rfl hd rfl ((if0 _ _).trans (tlt q).2.2.1) ho hT k) (kT q)
  · exact own_via (fun _ k => XS.ifNo X.here hx (g := mkF m pc Ls (.int x :: rest)) rfl hd rfl ((if0 _ _).trans (flt q).2.2.1) k) (kF q)
theorem own_icmp_le (X : Stand p l e R s m args below meth c T locs cells slots) (hx : p.tables.exec = Jvm.exec) {pc pcT pcF : Nat} {Ls : Array Slot} {rest : List Value} {x y : Int32} {o : Int} (hd : decode c.code pc = .ok (.if_icmp .le o, 3)) (ho : 0 ≤ (pc : Int) + o) (hT : ((pc : Int) + o).toNat = pcT) (hF : pc + 3 = pcF) (kT : ¬ y < x → own_Ends p e below Φ (T.setTop (mkF m pcT Ls rest))) (kF : y < x → own_Ends p e below Φ (T.setTop (mkF m pcF Ls rest))) : own_Ends p e below Φ (T.setTop (mkF m pc Ls (.int y :: .int x :: rest))) := by
  subst hF; by_cases q : y < x
  · exact own_via (fun _ k => XS.icmpNo X.here hx (g := mkF m pc Ls (.int y :: .int x :: rest)) rfl hd rfl (tlt q).2.2.2 k) (kF q)
  · exact own_via (fun _ k => XS.icmpYes X.here hx (g := mkF m pc Ls (.int y :: .int x :: rest)) rfl (pc0 := pc) (pc' := pcT) rfl hd rfl (flt q).2.2.2 ho hT k) (kT q)
theorem own_if_le (X : Stand p l e R s m args below meth c T locs cells slots) (hx : p.tables.exec = Jvm.exec) {pc pcT pcF : Nat} {Ls : Array Slot} {rest : List Value} {x : Int32} {o : Int} (hd : decode c.code pc = .ok (.ifCond .le o, 3)) (ho : 0 ≤ (pc : Int) + o) (hT : ((pc : Int) + o).toNat = pcT) (hF : pc + 3 = pcF) (kT : ¬ (0 : Int32) < x → own_Ends p e below Φ (T.setTop (mkF m pcT Ls rest))) (kF : (0 : Int32) < x → own_Ends p e below Φ (T.setTop (mkF m pcF Ls rest))) : own_Ends p e below Φ (T.setTop (mkF m pc Ls (.int x :: rest))) := by
  subst hF; by_cases q : (0 : Int32) < x
  · exact own_via (fun _ k => XS.ifNo X.here hx (g := mkF m pc Ls (.int x :: rest)) rfl hd rfl ((if0 _ _).trans (tlt q).2.2.2) k) (kF q)
  · exact own_via (fun _ k => XS.ifYes X.here hx (g := mkF m pc Ls (.int x :: rest)) rfl (pc0 := pc) (pc' := pcT) rfl hd rfl ((if0 _ _).trans (flt q).2.2.2) ho hT k) (kT q)
theorem own_icmpT (X : Stand p l e R s m args below meth c T locs cells slots) (hx : p.tables.exec = Jvm.exec) {pc pcT : Nat} {Ls : Array Slot} {rest : List Value} {x y : Int32} {cd : ClassFile.Cond} {o : Int} (hd : decode c.code pc = .ok (.if_icmp cd o, 3)) (ho : 0 ≤ (pc : Int) + o) (hT : ((pc : Int) + o).toNat = pcT) (q : if_icmp.holds cd x y = true) (h : own_Ends p e below Φ (T.setTop (mkF m pcT Ls rest))) : own_Ends p e below Φ (T.setTop (mkF m pc Ls (.int y :: .int x :: rest))) :=
  own_via (fun _ k => XS.icmpYes X.here hx (g := mkF m pc Ls (.int y :: .int x :: rest)) rfl (pc0 := pc) (pc' := pcT) rfl hd rfl q ho hT k) h
theorem own_icmpF (X : Stand p l e R s m args below meth c T locs cells slots) (hx : p.tables.exec = Jvm.exec) {pc pcF : Nat} {Ls : Array Slot} {rest : List Value} {x y : Int32} {cd : ClassFile.Cond} {o : Int} (hd : decode c.code pc = .ok (.if_icmp cd o, 3)) (hF : pc + 3 = pcF) (q : if_icmp.holds cd x y = false) (h : own_Ends p e below Φ (T.setTop (mkF m pcF Ls rest))) : own_Ends p e below Φ (T.setTop (mkF m pc Ls (.int y :: .int x :: rest))) := by
  subst hF; exact own_via (fun _ k => XS.icmpNo X.here hx (g := mkF m pc Ls (.int y :: .int x :: rest)) rfl hd rfl q k) h
theorem own_ifT (X : Stand p l e R s m args below meth c T locs cells slots) (hx : p.tables.exec = Jvm.exec) {pc pcT : Nat} {Ls : Array Slot} {rest : List Value} {x : Int32} {cd : ClassFile.Cond} {o : Int} (hd : decode c.code pc = .ok (.ifCond cd o, 3)) (ho : 0 ≤ (pc : Int) + o) (hT : ((pc : Int) + o).toNat = pcT) (q : if_icmp.holds cd x 0 = true) (h : own_Ends p e below Φ (T.setTop (mkF m pcT Ls rest))) : own_Ends p e below Φ (T.setTop (mkF m pc Ls (.int x :: rest))) :=
  own_via (fun _ k => XS.ifYes X.here hx (g := mkF m pc Ls (.int x :: rest)) rfl (pc0 := pc) (pc' := pcT) rfl hd rfl ((if0 _ _).trans q) ho hT k) h
theorem own_ifF (X : Stand p l e R s m args below meth c T locs cells slots) (hx : p.tables.exec = Jvm.exec) {pc pcF : Nat} {Ls : Array Slot} {rest : List Value} {x : Int32} {cd : ClassFile.Cond} {o : Int} (hd : decode c.code pc = .ok (.ifCond cd o, 3)) (hF : pc + 3 = pcF) (q : if_icmp.holds cd x 0 = false) (h : own_Ends p e below Φ (T.setTop (mkF m pcF Ls rest))) : own_Ends p e below Φ (T.setTop (mkF m pc Ls (.int x :: rest))) := by
  subst hF; exact own_via (fun _ k => XS.ifNo X.here hx (g := mkF m pc Ls (.int x :: rest)) rfl hd rfl ((if0 _ _).trans q) k) h
theorem own_ifnullT (X : Stand p l e R s m args below meth c T locs cells slots) (hx : p.tables.exec = Jvm.exec) {pc pcT : Nat} {Ls : Array Slot} {rest : List Value} {o : Int} (hd : decode c.code pc = .ok (.ifnull o, 3)) (ho : 0 ≤ (pc : Int) + o) (hT : ((pc : Int) + o).toNat = pcT) (h : own_Ends p e below Φ (T.setTop (mkF m pcT Ls rest))) : own_Ends p e below Φ (T.setTop (mkF m pc Ls (.null :: rest))) :=
  own_via (fun _ k => XS.ifnullYes X.here hx (g := mkF m pc Ls (.null :: rest)) rfl (pc0 := pc) (pc' := pcT) rfl hd rfl ho hT k) h
theorem own_ifnullF (X : Stand p l e R s m args below meth c T locs cells slots) (hx : p.tables.exec = Jvm.exec) {pc pcF : Nat} {Ls : Array Slot} {rest : List Value} {b : Addr} {o : Int} (hd : decode c.code pc = .ok (.ifnull o, 3)) (hF : pc + 3 = pcF) (h : own_Ends p e below Φ (T.setTop (mkF m pcF Ls rest))) : own_Ends p e below Φ (T.setTop (mkF m pc Ls (.ref b :: rest))) := by
  subst hF; exact own_via (fun _ k => XS.ifnullNo X.here hx (g := mkF m pc Ls (.ref b :: rest)) rfl hd rfl k) h
theorem own_ifnonnullT (X : Stand p l e R s m args below meth c T locs cells slots) (hx : p.tables.exec = Jvm.exec) {pc pcT : Nat} {Ls : Array Slot} {rest : List Value} {b : Addr} {o : Int} (hd : decode c.code pc = .ok (.ifnonnull o, 3)) (ho : 0 ≤ (pc : Int) + o) (hT : ((pc : Int) + o).toNat = pcT) (h : own_Ends p e below Φ (T.setTop (mkF m pcT Ls rest))) : own_Ends p e below Φ (T.setTop (mkF m pc Ls (.ref b :: rest))) :=
  own_via (fun _ k => XS.ifnonnullYes X.here hx (g := mkF m pc Ls (.ref b :: rest)) rfl (pc0 := pc) (pc' := pcT) rfl hd rfl ho hT k) h
theorem own_ifnonnullF (X : Stand p l e R s m args below meth c T locs cells slots) (hx : p.tables.exec = Jvm.exec) {pc pcF : Nat} {Ls : Array Slot} {rest : List Value} {o : Int} (hd : decode c.code pc = .ok (.ifnonnull o, 3)) (hF : pc + 3 = pcF) (h : own_Ends p e below Φ (T.setTop (mkF m pcF Ls rest))) : own_Ends p e below Φ (T.setTop (mkF m pc Ls (.null :: rest))) := by
  subst hF; exact own_via (fun _ k => XS.ifnonnullNo X.here hx (g := mkF m pc Ls (.null :: rest)) rfl hd rfl k) h
theorem own_acmp (X : Stand p l e R s m args below meth c T locs cells slots) (hx : p.tables.exec = Jvm.exec) {pc pcT pcF : Nat} {Ls : Array Slot} {rest : List Value} {x y : Value} {cd : ClassFile.ACond} {o : Int} (hd : decode c.code pc = .ok (.if_acmp cd o, 3)) (h1 : x.isRef = true) (h2 : y.isRef = true) (ho : 0 ≤ (pc : Int) + o) (hT : ((pc : Int) + o).toNat = pcT) (hF : pc + 3 = pcF)
    (kT : acV cd (decide (x = y)) = true → own_Ends p e below Φ (T.setTop (mkF m pcT Ls rest))) (kF : acV cd (decide (x = y)) = false → own_Ends p e below Φ (T.setTop (mkF m pcF Ls rest))) : own_Ends p e below Φ (T.setTop (mkF m pc Ls (y :: x :: rest))) := by
  subst hF hT
  rcases q : acV cd (decide (x = y)) with _ | _
  · exact own_via (fun _ k => Jvm.RoadKit.acmp (g := mkF m pc Ls (y :: x :: rest)) X hx rfl h1 h2 (pc0 := pc) (pc' := pc + 3) rfl hd rfl rfl ho (by rw [q]; rfl) k) (kF q)
  · exact own_via (fun _ k => Jvm.RoadKit.acmp (g := mkF m pc Ls (y :: x :: rest)) X hx rfl h1 h2 (pc0 := pc) (pc' := ((pc : Int) + o).toNat) rfl hd rfl rfl ho (by rw [q]; rfl) k) (kT q)
theorem own_acmp_eq (X : Stand p l e R s m args below meth c T locs cells slots) (hx : p.tables.exec = Jvm.exec) {pc pcT pcF : Nat} {Ls : Array Slot} {rest : List Value} {x y : Addr} {o : Int} (hd : decode c.code pc = .ok (.if_acmp .eq o, 3)) (ho : 0 ≤ (pc : Int) + o) (hT : ((pc : Int) + o).toNat = pcT) (hF : pc + 3 = pcF)
    (kT : x = y → own_Ends p e below Φ (T.setTop (mkF m pcT Ls rest))) (kF : ¬ x = y → own_Ends p e below Φ (T.setTop (mkF m pcF Ls rest))) : own_Ends p e below Φ (T.setTop (mkF m pc Ls (.ref y :: .ref x :: rest))) :=
  own_acmp X hx hd rfl rfl ho hT hF (fun q => kT (by simpa [acV] using q)) (fun q => kF (by simpa [acV] using q))
theorem own_acmp_ne (X : Stand p l e R s m args below meth c T locs cells slots) (hx : p.tables.exec = Jvm.exec) {pc pcT pcF : Nat} {Ls : Array Slot} {rest : List Value} {x y : Addr} {o : Int} (hd : decode c.code pc = .ok (.if_acmp .ne o, 3)) (ho : 0 ≤ (pc : Int) + o) (hT : ((pc : Int) + o).toNat = pcT) (hF : pc + 3 = pcF)
    (kT : ¬ x = y → own_Ends p e below Φ (T.setTop (mkF m pcT Ls rest))) (kF : x = y → own_Ends p e below Φ (T.setTop (mkF m pcF Ls rest))) : own_Ends p e below Φ (T.setTop (mkF m pc Ls (.ref y :: .ref x :: rest))) :=
  own_acmp X hx hd rfl rfl ho hT hF (fun q => kT (by simpa [acV] using q)) (fun q => kF (by simpa [acV] using q))
theorem own_ldcInt (X : Stand p l e R s m args below meth c T locs cells slots) (hx : p.tables.exec = Jvm.exec) (hZ : Z.Warmed39 s.vm) {own : String} {index : Nat} {v : Int32} (hown : s.vm.findClass own = some m.cls) (w : (Jvm.Cond.constant own index v).before a0 Z = true) {pc pc' : Nat} {Ls : Array Slot} {rest : List Value} (hd : decode c.code pc = .ok (.ldc index, 2)) (hp : pc + 2 = pc') (h : own_Ends p e below Φ (T.setTop (mkF m pc' Ls (.int v :: rest)))) : own_Ends p e below Φ (T.setTop (mkF m pc Ls rest)) := by
  subst hp; exact own_via (X.ldcInt hx hown (mvT hZ w) (g := mkF m pc Ls rest) rfl hd) h
theorem own_getF (X : Stand p l e R s m args below meth c T locs cells slots) (hx : p.tables.exec = Jvm.exec) (hZ : Z.Warmed39 s.vm) {own R0 O n d host : String} {index : Nat} (hown : s.vm.findClass own = some m.cls) (w : (Jvm.Cond.fieldLink own index R0 n d).before a0 Z = true ∨ (Jvm.Cond.fieldLinkNest own index R0 n d host).before a0 Z = true) (via : Via Z R0 O n d) (eT : T.heap = h) {a : Addr} {v : Value} (F : Fld Z h a O n d v) {pc pc' : Nat} {Ls : Array Slot} {rest : List Value}
    (hd : decode c.code pc = .ok (.getfield index, 3)) (hp : pc + 3 = pc') (k : ∀ T', Stand p l e R s m args below meth c T' locs cells slots → T'.heap = h → own_Ends p e below Φ (T'.setTop (mkF m pc' Ls (v :: rest)))) : own_Ends p e below Φ (T.setTop (mkF m pc Ls (.ref a :: rest))) := by
  subst hp; obtain ⟨T', X', e', st⟩ := getF X hx hZ hown w via eT F (g := mkF m pc Ls (.ref a :: rest)) rfl rfl hd
  exact own_via st (k T' X' e')
theorem own_getS (X : Stand p l e R s m args below meth c T locs cells slots) (hx : p.tables.exec = Jvm.exec) (hZ : Z.Warmed39 s.vm) {own R0 O n d host : String} {index : Nat} (hown : s.vm.findClass own = some m.cls) (w : (Jvm.Cond.fieldLink own index R0 n d).before a0 Z = true ∨ (Jvm.Cond.fieldLinkNest own index R0 n d host).before a0 Z = true) (via : Via Z R0 O n d) (eT : T.heap = h) {v : Value} (F : Sta Z h O n d v) {pc pc' : Nat} {Ls : Array Slot} {rest : List Value}
    (hd : decode c.code pc = .ok (.getstatic index, 3)) (hp : pc + 3 = pc') (k : ∀ T', Stand p l e R s m args below meth c T' locs cells slots → T'.heap = h → own_Ends p e below Φ (T'.setTop (mkF m pc' Ls (v :: rest)))) : own_Ends p e below Φ (T.setTop (mkF m pc Ls rest)) := by
  subst hp; obtain ⟨T', X', e', st⟩ := getS2 X hx hZ hown w via eT F (g := mkF m pc Ls rest) rfl hd
  exact own_via st (k T' X' e')
theorem own_putF (X : Stand p l e R s m args below meth c T locs cells slots) (hx : p.tables.exec = Jvm.exec) (hZ : Z.Warmed39 s.vm) {own R0 O n d host C : String} {index kk : Nat} {ty : FieldType} (hown : s.vm.findClass own = some m.cls) (w : (Jvm.Cond.fieldLink own index R0 n d).before a0 Z = true ∨ (Jvm.Cond.fieldLinkNest own index R0 n d host).before a0 Z = true) (via : Via Z R0 O n d) (eT : T.heap = h) {a : Addr} {v old : Value} (F : Fld Z h a O n d old) (E : Exa Z h a C)
    (L : (Jvm.Cond.lays C O n d).before a0 Z = true ∨ ((Jvm.Cond.laysFinal C O n d).before a0 Z = true ∧ own = O ∧ meth.name = "<init>")) (wi : (Jvm.Cond.instantiable C kk).before a0 Z = true) (hty : parseFieldDescriptor d = some ty) (hn : narrow ty v = v) (hf : fits ty v = true) {n0 : Nat} (N : Fr n0 locs) (g : n0 ≤ a) {pc pc' : Nat} {Ls : Array Slot} {rest : List Value}
    (hd : decode c.code pc = .ok (.putfield index, 3)) (hp : pc + 3 = pc') (k : ∀ T' h', Stand p l e R s m args below meth c T' (locs ++ [⟨a, Jvm.RoadKit.slotOf Z O n d⟩]) cells slots → T'.heap = h' → Wr h h' a (Jvm.RoadKit.slotOf Z O n d) v → Fr n0 (locs ++ [⟨a, Jvm.RoadKit.slotOf Z O n d⟩]) → own_Ends p e below Φ (T'.setTop (mkF m pc' Ls rest))) : own_Ends p e below Φ (T.setTop (mkF m pc Ls (v :: .ref a :: rest))) := by
  subst hp; obtain ⟨T', h', X', e', W', st⟩ := putF X hx hZ hown w via eT F E L wi hty hn hf (g := mkF m pc Ls (v :: .ref a :: rest)) rfl rfl hd
  exact own_via st (k T' h' X' e' W' (Fr.snoc X' N g))
theorem own_putFN (X : Stand p l e R s m args below meth c T locs cells slots) (hx : p.tables.exec = Jvm.exec) (hZ : Z.Warmed39 s.vm) {own R0 O n d C : String} {index kk : Nat} {ty : FieldType} (hown : s.vm.findClass own = some m.cls) (w : (Jvm.Cond.fieldLink own index R0 n d).before a0 Z = true) (via : Via Z R0 O n d) (eT : T.heap = h) {a : Addr} {v old : Value} (v' : Value) (F : Fld Z h a O n d old) (E : Exa Z h a C)
    (L : (Jvm.Cond.lays C O n d).before a0 Z = true ∨ ((Jvm.Cond.laysFinal C O n d).before a0 Z = true ∧ own = O ∧ meth.name = "<init>")) (wi : (Jvm.Cond.instantiable C kk).before a0 Z = true) (hty : parseFieldDescriptor d = some ty) (hn : narrow ty v = v') (hf : fits ty v' = true) {n0 : Nat} (N : Fr n0 locs) (g : n0 ≤ a) {pc pc' : Nat} {Ls : Array Slot} {rest : List Value}
    (hd : decode c.code pc = .ok (.putfield index, 3)) (hp : pc + 3 = pc') (k : ∀ T' h', Stand p l e R s m args below meth c T' (locs ++ [⟨a, Jvm.RoadKit.slotOf Z O n d⟩]) cells slots → T'.heap = h' → Wr h h' a (Jvm.RoadKit.slotOf Z O n d) v' → Fr n0 (locs ++ [⟨a, Jvm.RoadKit.slotOf Z O n d⟩]) → own_Ends p e below Φ (T'.setTop (mkF m pc' Ls rest))) : own_Ends p e below Φ (T.setTop (mkF m pc Ls (v :: .ref a :: rest))) := by
  subst hp; obtain ⟨T', h', X', e', W', st⟩ := putFN X hx hZ hown w via eT F E L wi hty hn hf (g := mkF m pc Ls (v :: .ref a :: rest)) rfl rfl hd
  exact own_via st (k T' h' X' e' W' (Fr.snoc X' N g))
theorem own_new (X : Stand p l e R s m args below meth c T locs cells slots) (hx : p.tables.exec = Jvm.exec) (hZ : Z.Warmed39 s.vm) {own C : String} {index n : Nat} (hown : s.vm.findClass own = some m.cls) (w : (Jvm.Cond.classLink own index C).before a0 Z = true) (wi : (Jvm.Cond.instantiable C n).before a0 Z = true) (wz : (Jvm.Cond.initialized C).before a0 Z = true) (eT : T.heap = h) {pc pc' : Nat} {Ls : Array Slot} {rest : List Value}
    (hd : decode c.code pc = .ok (.new index, 3)) (hc : cells + 1 ≤ R.cells) (hl : slots + n ≤ R.slots) (hp : pc + 3 = pc')
    (k : ∀ T' h' b, Stand p l e R s m args below meth c T' locs (cells + 1) (slots + n) → T'.heap = h' → b = h.size → Ext h h' → Exa Z h' b C → (∀ {O nm d : String} {ty : FieldType}, Laid Z a0 C O nm d → parseFieldDescriptor d = some ty → Fld Z h' b O nm d (defaultValue ty)) → own_Ends p e below Φ (T'.setTop (mkF m pc' Ls (.ref b :: rest)))) : own_Ends p e below Φ (T.setTop (mkF m pc Ls rest)) := by
  subst hp; obtain ⟨T', h', X', e', E', A', D', -, st⟩ := newO X hx hZ hown w wi wz eT (g := mkF m pc Ls rest) rfl hd hc hl
  exact own_via st (k T' h' _ X' e' rfl E' A' D')
theorem own_initO (X : Stand p l e R s m args below meth c T locs cells slots) (hx : p.tables.exec = Jvm.exec) (hZ : Z.Warmed39 s.vm) {own : String} {idx : Nat} (hown : s.vm.findClass own = some m.cls) (w1 : (Jvm.Cond.methodLink own idx Lib.objectInit).before a0 Z = true) (w2 : (Jvm.Cond.instanceMethod Lib.objectInit).before a0 Z = true) (w3 : (Jvm.Cond.code Lib.objectInit ⟨#[0xb1]⟩ 1 none).before a0 Z = true) (eT : T.heap = h) {a : Addr} {pc pc' : Nat} {Ls : Array Slot} {rest : List Value} (hsize : Ls.size = c.maxLocals)
    (hd : decode c.code pc = .ok (.invokespecial idx, 3)) (W : Nat) (hW : (rest.map fun v => v.category).sum = W) (hf : 1 ≤ R.frames) (hl : W + 12 ≤ R.locals) (hp : pc + 3 = pc') (k : ∀ T', Stand p l e R s m args below meth c T' locs cells slots → T'.heap = h → own_Ends p e below Φ (T'.setTop (mkF m pc' Ls rest))) : own_Ends p e below Φ (T.setTop (mkF m pc Ls (.ref a :: rest))) := by
  subst hp; obtain ⟨T', X', e', st⟩ := initO X hx hZ hown w1 w2 w3 eT (g := mkF m pc Ls (.ref a :: rest)) rfl hsize rfl hd hf (W := W) (by rw [← hW]; show 2 * 0 + _ ≤ _; omega) hl
  exact own_via st (k T' X' e')
theorem own_static (X : Stand p l e R s m args below meth c T locs cells slots) (hx : p.tables.exec = Jvm.exec) (hZ : Z.Warmed39 s.vm) {own : String} {index : Nat} {y : MethodName} {bytes : ByteArray} {maxL : Nat} {ret : Option FieldType} {rm : Room} {Q : Option Value → Heap → List Loc → Prop} (hown : s.vm.findClass own = some m.cls) (w1 : (Jvm.Cond.methodLink own index y).before a0 Z = true) (w2 : (Jvm.Cond.static y).before a0 Z = true) (w3 : (Jvm.Cond.initialized y.cls).before a0 Z = true) (w4 : (Jvm.Cond.code y bytes maxL ret).before a0 Z = true) (hy : y.cls ≠ "java/lang/invoke/MethodHandle" ∧ y.cls ≠ "java/lang/invoke/VarHandle") (eT : T.heap = h) (hf : rm.frames + 1 ≤ R.frames) {W : Nat} (hl : W + (maxL + 11) + rm.locals ≤ R.locals) (hc : cells + rm.cells ≤ R.cells) (hs : slots + rm.slots ≤ R.slots) {pc pc' : Nat} {Ls : Array Slot} (argsL rest : List Value) {st : List Value} (hsize : Ls.size = c.maxLocals) (hM : own_Met l y bytes maxL ret rm Z argsL.toArray h Q)
    {ps : List FieldType} {r : Option FieldType} (hpd : parseMethodDescriptor y.desc = some ⟨ps, r⟩) (hlen : argsL.length = ps.length) (hst : st = argsL.reverse ++ rest) (hW : (rest.map fun v => v.category).sum = W) (hd : decode c.code pc = .ok (.invokestatic index, 3)) (hp : pc + 3 = pc') (k : ∀ v T' L, Stand p l e R s m args below meth c T' (locs ++ L) (cells + rm.cells) (slots + rm.slots) → Q v T'.heap L → own_Ends p e below Φ (T'.setTop (mkF m pc' Ls (v.toList ++ rest)))) : own_Ends p e below Φ (T.setTop (mkF m pc Ls st)) := by
  subst hp
  obtain ⟨v, _, ⟨T', L', k', n'⟩, -, X', ⟨Lc, hQ, e1, e2, e3⟩, st'⟩ := Jvm.LawKit.callS X hx (y := y) hown (mvT hZ w1) (mvT hZ w2) (mvT hZ w3) (mvT hZ w4) hy (backOf (W := W) (hM []) hZ w4 w3 hf hl) (g := mkF m pc Ls st) rfl hsize (argsL := argsL) (rest := rest) (lenOf hpd hlen) hst (by rw [← hW]; show 2 * 0 + _ ≤ _; omega) hd (fun _ _ => ⟨rfl, eT, hc, hs⟩)
  dsimp only [Pt.U, Pt.locs, Pt.cells, Pt.slots] at X' e1 e2 e3 st' hQ
  subst e1 e2 e3
  exact own_via st' (k v T' Lc X' hQ)
theorem own_special (X : Stand p l e R s m args below meth c T locs cells slots) (hx : p.tables.exec = Jvm.exec) (hZ : Z.Warmed39 s.vm) {own : String} {index : Nat} {y : MethodName} {bytes : ByteArray} {maxL : Nat} {rm : Room} {Q : Option Value → Heap → List Loc → Prop} (hy1 : y.name = "<init>") (hown : s.vm.findClass own = some m.cls) (w1 : (Jvm.Cond.methodLink own index y).before a0 Z = true) (w2 : (Jvm.Cond.instanceMethod y).before a0 Z = true) (w3 : (Jvm.Cond.initialized y.cls).before a0 Z = true) (w4 : (Jvm.Cond.code y bytes maxL none).before a0 Z = true) (hy : y.cls ≠ "java/lang/invoke/MethodHandle" ∧ y.cls ≠ "java/lang/invoke/VarHandle") (eT : T.heap = h) (hf : rm.frames + 1 ≤ R.frames) {W : Nat} (hl : W + (maxL + 11) + rm.locals ≤ R.locals) (hc : cells + rm.cells ≤ R.cells) (hs : slots + rm.slots ≤ R.slots) {pc pc' : Nat} {Ls : Array Slot} (argsL rest : List Value) {st : List Value} (hsize : Ls.size = c.maxLocals) {a : Addr} (hM : own_Met l y bytes maxL none rm Z (.ref a :: argsL).toArray h Q)
    {ps : List FieldType} {r : Option FieldType} (hpd : parseMethodDescriptor y.desc = some ⟨ps, r⟩) (hlen : argsL.length = ps.length) (hst : st = argsL.reverse ++ .ref a :: rest) (hW : (rest.map fun v => v.category).sum = W) (hd : decode c.code pc = .ok (.invokespecial index, 3)) (hp : pc + 3 = pc') (k : ∀ v T' L, Stand p l e R s m args below meth c T' (locs ++ L) (cells + rm.cells) (slots + rm.slots) → Q v T'.heap L → own_Ends p e below Φ (T'.setTop (mkF m pc' Ls (v.toList ++ rest)))) : own_Ends p e below Φ (T.setTop (mkF m pc Ls st)) := by
  subst hp
  obtain ⟨v, _, ⟨T', L', k', n'⟩, -, X', ⟨Lc, hQ, e1, e2, e3⟩, st'⟩ := X.specialBack hx (y := y) hy1 hown (mvT hZ w1) (mvT hZ w2) (mvT hZ w4) hy (backOf (W := W) (hM []) hZ w4 w3 hf hl) (g := mkF m pc Ls st) rfl hsize (Steps.refl _) (a := a) (argsL := argsL) (rest := rest) (lenOf hpd hlen) hst (by rw [← hW]; show 2 * 0 + _ ≤ _; omega) hd (fun _ _ => ⟨rfl, eT, hc, hs⟩)
  dsimp only [Pt.U, Pt.locs, Pt.cells, Pt.slots] at X' e1 e2 e3 st' hQ
  subst e1 e2 e3
  exact own_thru st' (k v T' Lc X' hQ)
theorem own_virtual (X : Stand p l e R s m args below meth c T locs cells slots) (hx : p.tables.exec = Jvm.exec) (hZ : Z.Warmed39 s.vm) {own C : String} {index : Nat} {y z : MethodName} {bytes : ByteArray} {maxL : Nat} {ret : Option FieldType} {rm : Room} {Q : Option Value → Heap → List Loc → Prop} (hown : s.vm.findClass own = some m.cls) (w1 : (Jvm.Cond.methodLink own index y).before a0 Z = true) (w2 : (Jvm.Cond.declares y).before a0 Z = true) (hnf : NotFace s y) (w3 : (Jvm.Cond.selects C y z).before a0 Z = true) (w4 : (Jvm.Cond.instanceMethod z).before a0 Z = true) (w5 : (Jvm.Cond.initialized z.cls).before a0 Z = true) (w6 : (Jvm.Cond.code z bytes maxL ret).before a0 Z = true) (hy : y.cls ≠ "java/lang/invoke/MethodHandle" ∧ y.cls ≠ "java/lang/invoke/VarHandle") (eT : T.heap = h) (hf : rm.frames + 1 ≤ R.frames) {W : Nat} (hl : W + (maxL + 11) + rm.locals ≤ R.locals) (hc : cells + rm.cells ≤ R.cells) (hs : slots + rm.slots ≤ R.slots) {pc pc' : Nat} {Ls : Array Slot} (argsL rest : List Value) {st : List Value} (hsize : Ls.size = c.maxLocals) {a : Addr} (E : Exa Z h a C) (hM : own_Met l z bytes maxL ret rm Z (.ref a :: argsL).toArray h Q)
    {ps : List FieldType} {r : Option FieldType} (hpd : parseMethodDescriptor y.desc = some ⟨ps, r⟩) (hlen : argsL.length = ps.length) (hst : st = argsL.reverse ++ .ref a :: rest) (hW : (rest.map fun v => v.category).sum = W) (hd : decode c.code pc = .ok (.invokevirtual index, 3)) (hp : pc + 3 = pc') (k : ∀ v T' L, Stand p l e R s m args below meth c T' (locs ++ L) (cells + rm.cells) (slots + rm.slots) → Q v T'.heap L → own_Ends p e below Φ (T'.setTop (mkF m pc' Ls (v.toList ++ rest)))) : own_Ends p e below Φ (T.setTop (mkF m pc Ls st)) := by
  subst hp
  obtain ⟨cq, kq, q1, q2, q3⟩ := isOf hZ eT E
  obtain ⟨v, _, ⟨T', L', k', n'⟩, -, X', ⟨Lc, hQ, e1, e2, e3⟩, st'⟩ := X.virtualBack hx (y := y) (z := z) hown (mvT hZ w1) (mvT hZ w2) hnf (mvT hZ w3) (mvT hZ w4) hy (backOf (W := W) (hM []) hZ w6 w5 hf hl) q1 q3 (g := mkF m pc Ls st) rfl hsize (Steps.refl _) (argsL := argsL) (rest := rest) (lenOf hpd hlen) hst (by rw [← hW]; show 2 * 0 + _ ≤ _; omega) hd (fun _ _ => ⟨rfl, eT, hc, hs⟩)
  dsimp only [Pt.U, Pt.locs, Pt.cells, Pt.slots] at X' e1 e2 e3 st' hQ
  subst e1 e2 e3
  exact own_thru st' (k v T' Lc X' hQ)
theorem own_private (X : Stand p l e R s m args below meth c T locs cells slots) (hx : p.tables.exec = Jvm.exec) (hZ : Z.Warmed39 s.vm) {own : String} {index : Nat} {y : MethodName} {bytes : ByteArray} {maxL : Nat} {ret : Option FieldType} {rm : Room} {Q : Option Value → Heap → List Loc → Prop} (hown : s.vm.findClass own = some m.cls) (w1 : (Jvm.Cond.methodLink own index y).before a0 Z = true) (hnf : ∀ c k, s.vm.findClass y.cls = some c → s.vm.classes[c]? = some k → k.isInterface = false) (w4 : (Jvm.Cond.instanceMethod y).before a0 Z = true) (wp : (Jvm.Cond.privateMethod y).before a0 Z = true) (w5 : (Jvm.Cond.initialized y.cls).before a0 Z = true) (w6 : (Jvm.Cond.code y bytes maxL ret).before a0 Z = true) (hy : y.cls ≠ "java/lang/invoke/MethodHandle" ∧ y.cls ≠ "java/lang/invoke/VarHandle") (eT : T.heap = h) (hf : rm.frames + 1 ≤ R.frames) {W : Nat} (hl : W + (maxL + 11) + rm.locals ≤ R.locals) (hc : cells + rm.cells ≤ R.cells) (hs : slots + rm.slots ≤ R.slots) {pc pc' : Nat} {Ls : Array Slot} (argsL rest : List Value) {st : List Value} (hsize : Ls.size = c.maxLocals) {a : Addr} {C : String} (E : Exa Z h a C) (hM : own_Met l y bytes maxL ret rm Z (.ref a :: argsL).toArray h Q)
    {ps : List FieldType} {r : Option FieldType} (hpd : parseMethodDescriptor y.desc = some ⟨ps, r⟩) (hlen : argsL.length = ps.length) (hst : st = argsL.reverse ++ .ref a :: rest) (hW : (rest.map fun v => v.category).sum = W) (hd : decode c.code pc = .ok (.invokevirtual index, 3)) (hp : pc + 3 = pc') (k : ∀ v T' L, Stand p l e R s m args below meth c T' (locs ++ L) (cells + rm.cells) (slots + rm.slots) → Q v T'.heap L → own_Ends p e below Φ (T'.setTop (mkF m pc' Ls (v.toList ++ rest)))) : own_Ends p e below Φ (T.setTop (mkF m pc Ls st)) := by
  subst hp
  obtain ⟨cl, q1, q2⟩ := E.cell
  have hpr := Cond.privateMethod_at (mvP hZ wp (args := args))
  have hin : (Jvm.Cond.instanceMethod y).before args s = true := mvT hZ w4
  obtain ⟨mk, methM, hnamed, hmethM, -, -⟩ := Cond.instanceMethod_spec hin
  obtain ⟨kk, hkk, -⟩ := className_of_methodNamed hnamed
  have hfc := findClass_of_methodNamed hnamed
  have hsel := selects_self_of_private (args := args) hfc hkk (hnf _ _ hfc hkk) hpr hin hy
  obtain ⟨v, _, ⟨T', L', k', n'⟩, -, X', ⟨Lc, hQ, e1, e2, e3⟩, st'⟩ := X.privateBack hx (y := y) hown (mvT hZ w1) hin hsel hpr (mvT hZ w6) hy (backOf (W := W) (hM []) hZ w6 w5 hf hl) (g := mkF m pc Ls st) rfl hsize (Steps.refl _) (a := a) (by rw [eT]; exact q1) q2 (argsL := argsL) (rest := rest) (lenOf hpd hlen) hst (by rw [← hW]; show 2 * 0 + _ ≤ _; omega) hd (fun _ _ => ⟨rfl, eT, hc, hs⟩)
  dsimp only [Pt.U, Pt.locs, Pt.cells, Pt.slots] at X' e1 e2 e3 st' hQ
  subst e1 e2 e3
  exact own_thru st' (k v T' Lc X' hQ)
theorem own_nf (hZ : Z.Warmed39 s.vm) {C : String} {y z : MethodName} (w : (Jvm.Cond.selects C y z).before a0 Z = true) : ∀ c k, s.vm.findClass z.cls = some c → s.vm.classes[c]? = some k → k.isInterface = false := fun c k h1 h2 => by
  obtain ⟨c2, r2, m2, -, -, q3, -, kP, hkP, hkPi⟩ := Cond.selects_spec (show (Jvm.Cond.selects C y z).before #[] s = true from mvT hZ w)
  have := findClass_of_methodNamed q3
  cases this.symm.trans h1
  cases hkP.symm.trans h2
  exact hkPi
theorem own_leave (X : Stand p l e R s m args below meth c T locs cells slots) (hlocks : meth.locks = false) {v : Option Value} (hv : meth.sig.returnType = none → v = none) {Q : Option Value → Heap → List Loc → Prop} {kc ks : Nat} (hc : cells ≤ kc) (hs : slots ≤ ks) (hq : Q v T.heap locs) {t : State}
    (step : ∀ fs, (∀ (f : JFrame) (acts : List Action), f.method = m → f.locked = none → f.entered = [] → (doReturn e (T.setTop f) acts v).1 = T.setFrames fs) → Steps p.tables e below t (T.setFrames fs)) : own_Ends p e below (own_Post s Q kc ks) t := by
  obtain ⟨fs, hr, hrun, hended, hW, hsame⟩ := X.leave (v := v) hv hlocks
  exact ⟨_, _, step fs hr, hrun, hended, v, locs, rfl, hq, ⟨_, rfl⟩, hW, hsame.mono hc hs⟩
theorem own_retN (X : Stand p l e R s m args below meth c T locs cells slots) (hx : p.tables.exec = Jvm.exec) (hlocks : meth.locks = false) {t : FieldType} (hret : meth.sig.returnType = some t) (ht : t = .boolean ∨ t = .byte ∨ t = .char ∨ t = .short) {pc : Nat} {Ls : Array Slot} {z : Int32} {rest : List Value} (hd : decode c.code pc = .ok (.ireturn, 1)) {Q : Option Value → Heap → List Loc → Prop} {kc ks : Nat} (hc : cells ≤ kc) (hs : slots ≤ ks) (hn : nar t z = z) (hq : Q (some (.int z)) T.heap locs) :
    own_Ends p e below (own_Post s Q kc ks) (T.setTop (mkF m pc Ls (.int z :: rest))) :=
  own_leave X hlocks (v := some (.int (nar t z))) (fun h => by rw [hret] at h; cases h) hc hs (by rw [hn]; exact hq) (fun fs hr => retN X hx hret ht hd hr)
theorem own_retI (X : Stand p l e R s m args below meth c T locs cells slots) (hx : p.tables.exec = Jvm.exec) (hlocks : meth.locks = false) (hret : meth.sig.returnType = some .int) {pc : Nat} {Ls : Array Slot} {z : Int32} {rest : List Value} (hd : decode c.code pc = .ok (.ireturn, 1)) {Q : Option Value → Heap → List Loc → Prop} {kc ks : Nat} (hc : cells ≤ kc) (hs : slots ≤ ks) (hq : Q (some (.int z)) T.heap locs) :
    own_Ends p e below (own_Post s Q kc ks) (T.setTop (mkF m pc Ls (.int z :: rest))) :=
  own_leave X hlocks (v := some (.int z)) (fun h => by rw [hret] at h; cases h) hc hs hq (fun fs hr => retOut X hx hret (w := .int z) rfl (Or.inl ⟨rfl, Or.inl rfl, z, rfl⟩) hd hr)
theorem own_retJ (X : Stand p l e R s m args below meth c T locs cells slots) (hx : p.tables.exec = Jvm.exec) (hlocks : meth.locks = false) (hret : meth.sig.returnType = some .long) {pc : Nat} {Ls : Array Slot} {z : Int64} {rest : List Value} (hd : decode c.code pc = .ok (.lreturn, 1)) {Q : Option Value → Heap → List Loc → Prop} {kc ks : Nat} (hc : cells ≤ kc) (hs : slots ≤ ks) (hq : Q (some (.long z)) T.heap locs) :
    own_Ends p e below (own_Post s Q kc ks) (T.setTop (mkF m pc Ls (.long z :: rest))) :=
  own_leave X hlocks (v := some (.long z)) (fun h => by rw [hret] at h; cases h) hc hs hq (fun fs hr => retOut X hx hret (w := .long z) rfl (Or.inr (Or.inl ⟨rfl, rfl, z, rfl⟩)) hd hr)
theorem own_narR {t : FieldType} (ht : t.isReference = true) {w : Value} (hw : w.isRef = true) : narrow t w = w := by cases t <;> first | (cases w <;> first | rfl | cases hw) | cases ht
theorem own_retA (X : Stand p l e R s m args below meth c T locs cells slots) (hx : p.tables.exec = Jvm.exec) (hlocks : meth.locks = false) {t : FieldType} (hret : meth.sig.returnType = some t) (ht : t.isReference = true) {pc : Nat} {Ls : Array Slot} {w : Value} (hw : w.isRef = true) {rest : List Value} (hd : decode c.code pc = .ok (.areturn, 1)) {Q : Option Value → Heap → List Loc → Prop} {kc ks : Nat} (hc : cells ≤ kc) (hs : slots ≤ ks) (hq : Q (some w) T.heap locs) :
    own_Ends p e below (own_Post s Q kc ks) (T.setTop (mkF m pc Ls (w :: rest))) :=
  own_leave X hlocks (v := some w) (fun h => by rw [hret] at h; cases h) hc hs hq (fun fs hr => retOut X hx hret (own_narR ht hw) (Or.inr (Or.inr (Or.inr (Or.inr ⟨rfl, ht, hw⟩)))) hd hr)
theorem own_ret (X : Stand p l e R s m args below meth c T locs cells slots) (hx : p.tables.exec = Jvm.exec) (hlocks : meth.locks = false) (hret : meth.sig.returnType = none) {pc : Nat} {Ls : Array Slot} (hd : decode c.code pc = .ok (.return_, 1)) {Q : Option Value → Heap → List Loc → Prop} {kc ks : Nat} (hc : cells ≤ kc) (hs : slots ≤ ks) (hq : Q none T.heap locs) :
    own_Ends p e below (own_Post s Q kc ks) (T.setTop (mkF m pc Ls [])) :=
  own_leave X hlocks (v := none) (fun _ => rfl) hc hs hq (fun fs hr => X.returnOut hx hret hd hr)
end OwnKit
section OwnKitH
variable {p : Program} {l : Launch} {e : Env} {R : Room} {s : State} {m : MethodId} {args : Array Value} {below : List Frame} {meth : Method} {c : Code} {T : State} {locs : List Loc} {cells slots : Nat} {Z : State} {a0 : Array Value} {h : Heap} {Φ : Outcome → State → Prop} {vm0 : Vm} {EL : List (String × Nat)} {h0 : Heap}
def own_H (Z : State) (EL : List (String × Nat)) (s : State) (h0 : Heap) (vm0 : Vm) (h : Heap) : Prop := s.heap = h0 ∧ (∃ k0, s.Since vm0 k0 ∧ k0 ≤ h.size) ∧ CHr Z EL s.vm h0 vm0 h
theorem own_H.ext {h' : Heap} (H : own_H Z EL s h0 vm0 h) (E : Ext h h') : own_H Z EL s h0 vm0 h' := ⟨H.1, by obtain ⟨k, h1, h2⟩ := H.2.1; exact ⟨k, h1, Nat.le_trans h2 E.1⟩, H.2.2.trans (CHr.ext E H.2.2.1)⟩
theorem own_H.wr {h' : Heap} {a : Addr} {sl : Nat} {v : Value} (H : own_H Z EL s h0 vm0 h) (W : Wr h h' a sl v) (S : Safe Z EL vm0 h a) : own_H Z EL s h0 vm0 h' := ⟨H.1, by obtain ⟨k, h1, h2⟩ := H.2.1; exact ⟨k, h1, by rw [W.size]; exact h2⟩, H.2.2.trans (CHr.wr W S H.2.2.1)⟩
theorem own_H.keep {h' : Heap} {ws : List Addr} (H : own_H Z EL s h0 vm0 h) (K : Keep h h' ws) (S : ∀ x ∈ ws, Safe Z EL vm0 h x) : own_H Z EL s h0 vm0 h' := ⟨H.1, by obtain ⟨k, h1, h2⟩ := H.2.1; exact ⟨k, h1, Nat.le_trans h2 K.1⟩, H.2.2.trans (CHr.keep K S H.2.2.1)⟩
theorem own_H.ch (H : own_H Z EL s h0 vm0 h) : CHv Z EL vm0 h := H.2.2.1
theorem own_sfE {h' : Heap} {y : Addr} (S : Safe Z EL vm0 h y) (E : Ext h h') (H : own_H Z EL s h0 vm0 h) : Safe Z EL vm0 h' y := Safe.ext E H.ch S
theorem own_sfN {h' : Heap} {y : Addr} (q : y = h.size) (E : Ext h h') (H : own_H Z EL s h0 vm0 h) : Safe Z EL vm0 h' y := Safe.ext E H.ch (Safe.new (Nat.le_of_eq q.symm))
theorem own_sfW {h' : Heap} {y a : Addr} {sl : Nat} {v : Value} (S : Safe Z EL vm0 h y) (W : Wr h h' a sl v) (Sa : Safe Z EL vm0 h a) (H : own_H Z EL s h0 vm0 h) : Safe Z EL vm0 h' y := Safe.wr W Sa H.ch S
theorem own_sfK {h' : Heap} {y : Addr} {ws : List Addr} (S : Safe Z EL vm0 h y) (K : Keep h h' ws) (Sw : ∀ x ∈ ws, Safe Z EL vm0 h x) (H : own_H Z EL s h0 vm0 h) : Safe Z EL vm0 h' y := Safe.keep K Sw H.ch S
def own_PostH (Z : State) (EL : List (String × Nat)) (s : State) (Q : Option Value → Heap → List Loc → Prop) (kc ks : Nat) (o : Outcome) (U : State) : Prop := ∃ v L, o = .returned v ∧ Q v U.heap L ∧ CHr Z EL s.vm s.heap U.vm U.heap ∧ ReturnedEndW s o U L kc ks
def own_MetH (l : Launch) (y : MethodName) (bytes : ByteArray) (maxL : Nat) (ret : Option FieldType) (rm : Room) (Z : State) (EL : List (String × Nat)) (as' : Array Value) (h0 : Heap) (Q : Option Value → Heap → List Loc → Prop) : Prop :=
  ∀ ws : List Jvm.Cond, MetFree l y (head1 (Jvm.Cond.code y bytes maxL ret :: ws) rm) (fun a U => a = as' ∧ Z.Warmed39 U.vm ∧ U.heap = h0 ∧ CHv Z EL U.vm h0) (fun _ _ _ _ _ => True) (fun _ U o U' => ∃ v L, o = .returned v ∧ Q v U'.heap L ∧ CHr Z EL U.vm U.heap U'.vm U'.heap ∧ ReturnedEndW U o U' L rm.cells rm.slots)
theorem own_metH {y : MethodName} {bytes : ByteArray} {maxL : Nat} {ret : Option FieldType} {rm : Room} {as' : Array Value} {Q : Option Value → Heap → List Loc → Prop} (hp : plainFor y = true)
    (body : ∀ (p : Program) (e : Env) (s : State) (m : MethodId) (below : List Frame) (meth : Method) (c : Code) (T : State), p.tables.exec = Jvm.exec → c.code = bytes → c.maxLocals = maxL → Z.Warmed39 (s.setVm s.vm).vm → (s.setVm s.vm).vm.findClass y.cls = some m.cls → meth.name = y.name → meth.sig.returnType = ret → meth.locks = false →
      Stand p l e rm (s.setVm s.vm) m as' below meth c T [] 0 0 → T.heap = h0 → s.heap = h0 → own_H Z EL s h0 s.vm h0 → own_Ends p e below (own_PostH Z EL s Q rm.cells rm.slots) (T.setTop (entryFrame m as' maxL))) : own_MetH l y bytes maxL ret rm Z EL as' h0 Q := by
  intro ws
  refine MetFree.of_bodySF hp hisR ?_
  intro p e s m args below meth c s₁ Bd hml0 hP hK
  obtain ⟨rfl, hZ, hh, hC⟩ := hP
  exact body p e s m below meth c s₁ Bd.exec Bd.bytes hml0 hZ (findClass_of_methodNamed Bd.named) (name_of_methodNamed Bd.named Bd.method).1 Bd.returns (BodyLoose.notSynchronized Bd) (Stand.of_body Bd) (by rw [← hh, Bd.state]; rfl) hh ⟨hh, ⟨0, ⟨State.Warmed39.refl s, (State.WarmedH.refl s).no_new_pair 0⟩, Nat.zero_le _⟩, CHr.refl hC⟩
/-- a plain contract serves where an H one is asked -/
theorem own_leaveH (X : Stand p l e R (s.setVm vm0) m args below meth c T locs cells slots) (hlocks : meth.locks = false) {v : Option Value} (hv : meth.sig.returnType = none → v = none) (hZ : Z.Warmed39 (s.setVm vm0).vm) (eT : T.heap = h) (HH : own_H Z EL s h0 vm0 h) (hEL : EW Z a0 EL) {Q : Option Value → Heap → List Loc → Prop} {kc ks : Nat} (hc : cells ≤ kc) (hs : slots ≤ ks) (hq : Q v T.heap locs) {t : State}
    (step : ∀ fs, (∀ (f : JFrame) (acts : List Action), f.method = m → f.locked = none → f.entered = [] → (doReturn e (T.setTop f) acts v).1 = T.setFrames fs) → Steps p.tables e below t (T.setFrames fs)) : own_Ends p e below (own_PostH Z EL s Q kc ks) t := by
  obtain ⟨hh, ⟨k0, hS, hk⟩, hC⟩ := HH
  obtain ⟨fs, hr, hrun, hended, hE⟩ := X.leaveW hS (by rw [eT]; exact hk) (v := v) hv hlocks
  subst hh eT
  have A := hC.trans (CHv.at X hZ hEL hC.1)
  exact ⟨_, _, step fs hr, hrun, hended, v, locs, rfl, hq, A, hE.1, hE.2.1, hE.2.2.1, hE.2.2.2.mono hc hs⟩
theorem own_retNH (X : Stand p l e R (s.setVm vm0) m args below meth c T locs cells slots) (hx : p.tables.exec = Jvm.exec) (hZ : Z.Warmed39 (s.setVm vm0).vm) (eT : T.heap = h) (HH : own_H Z EL s h0 vm0 h) (hEL : EW Z a0 EL) (hlocks : meth.locks = false) {t : FieldType} (hret : meth.sig.returnType = some t) (ht : t = .boolean ∨ t = .byte ∨ t = .char ∨ t = .short) {pc : Nat} {Ls : Array Slot} {z : Int32} {rest : List Value} (hd : decode c.code pc = .ok (.ireturn, 1)) {Q : Option Value → Heap → List Loc → Prop} {kc ks : Nat} (hc : cells ≤ kc) (hs : slots ≤ ks) (hn : nar t z = z) (hq : Q (some (.int z)) T.heap locs) :
    own_Ends p e below (own_PostH Z EL s Q kc ks) (T.setTop (mkF m pc Ls (.int z :: rest))) :=
  own_leaveH X hlocks (v := some (.int (nar t z))) (fun h => by rw [hret] at h; cases h) hZ eT HH hEL hc hs (by rw [hn]; exact hq) (fun fs hr => retN X hx hret ht hd hr)
theorem own_retIH (X : Stand p l e R (s.setVm vm0) m args below meth c T locs cells slots) (hx : p.tables.exec = Jvm.exec) (hZ : Z.Warmed39 (s.setVm vm0).vm) (eT : T.heap = h) (HH : own_H Z EL s h0 vm0 h) (hEL : EW Z a0 EL) (hlocks : meth.locks = false) (hret : meth.sig.returnType = some .int) {pc : Nat} {Ls : Array Slot} {z : Int32} {rest : List Value} (hd : decode c.code pc = .ok (.ireturn, 1)) {Q : Option Value → Heap → List Loc → Prop} {kc ks : Nat} (hc : cells ≤ kc) (hs : slots ≤ ks) (hq : Q (some (.int z)) T.heap locs) :
    own_Ends p e below (own_PostH Z EL s Q kc ks) (T.setTop (mkF m pc Ls (.int z :: rest))) :=
  own_leaveH X hlocks (v := some (.int z)) (fun h => by rw [hret] at h; cases h) hZ eT HH hEL hc hs hq (fun fs hr => retOut X hx hret (w := .int z) rfl (Or.inl ⟨rfl, Or.inl rfl, z, rfl⟩) hd hr)
theorem own_retJH (X : Stand p l e R (s.setVm vm0) m args below meth c T locs cells slots) (hx : p.tables.exec = Jvm.exec) (hZ : Z.Warmed39 (s.setVm vm0).vm) (eT : T.heap = h) (HH : own_H Z EL s h0 vm0 h) (hEL : EW Z a0 EL) (hlocks : meth.locks = false) (hret : meth.sig.returnType = some .long) {pc : Nat} {Ls : Array Slot} {z : Int64} {rest : List Value} (hd : decode c.code pc = .ok (.lreturn, 1)) {Q : Option Value → Heap → List Loc → Prop} {kc ks : Nat} (hc : cells ≤ kc) (hs : slots ≤ ks) (hq : Q (some (.long z)) T.heap locs) :
    own_Ends p e below (own_PostH Z EL s Q kc ks) (T.setTop (mkF m pc Ls (.long z :: rest))) :=
  own_leaveH X hlocks (v := some (.long z)) (fun h => by rw [hret] at h; cases h) hZ eT HH hEL hc hs hq (fun fs hr => retOut X hx hret (w := .long z) rfl (Or.inr (Or.inl ⟨rfl, rfl, z, rfl⟩)) hd hr)
theorem own_retAH (X : Stand p l e R (s.setVm vm0) m args below meth c T locs cells slots) (hx : p.tables.exec = Jvm.exec) (hZ : Z.Warmed39 (s.setVm vm0).vm) (eT : T.heap = h) (HH : own_H Z EL s h0 vm0 h) (hEL : EW Z a0 EL) (hlocks : meth.locks = false) {t : FieldType} (hret : meth.sig.returnType = some t) (ht : t.isReference = true) {pc : Nat} {Ls : Array Slot} {w : Value} (hw : w.isRef = true) {rest : List Value} (hd : decode c.code pc = .ok (.areturn, 1)) {Q : Option Value → Heap → List Loc → Prop} {kc ks : Nat} (hc : cells ≤ kc) (hs : slots ≤ ks) (hq : Q (some w) T.heap locs) :
    own_Ends p e below (own_PostH Z EL s Q kc ks) (T.setTop (mkF m pc Ls (w :: rest))) :=
  own_leaveH X hlocks (v := some w) (fun h => by rw [hret] at h; cases h) hZ eT HH hEL hc hs hq (fun fs hr => retOut X hx hret (own_narR ht hw) (Or.inr (Or.inr (Or.inr (Or.inr ⟨rfl, ht, hw⟩)))) hd hr)
theorem own_retH (X : Stand p l e R (s.setVm vm0) m args below meth c T locs cells slots) (hx : p.tables.exec = Jvm.exec) (hZ : Z.Warmed39 (s.setVm vm0).vm) (eT : T.heap = h) (HH : own_H Z EL s h0 vm0 h) (hEL : EW Z a0 EL) (hlocks : meth.locks = false) (hret : meth.sig.returnType = none) {pc : Nat} {Ls : Array Slot} (hd : decode c.code pc = .ok (.return_, 1)) {Q : Option Value → Heap → List Loc → Prop} {kc ks : Nat} (hc : cells ≤ kc) (hs : slots ≤ ks) (hq : Q none T.heap locs) :
    own_Ends p e below (own_PostH Z EL s Q kc ks) (T.setTop (mkF m pc Ls [])) :=
  own_leaveH X hlocks (v := none) (fun _ => rfl) hZ eT HH hEL hc hs hq (fun fs hr => X.returnOut hx hret hd hr)
theorem own_staticH (X : Stand p l e R (s.setVm vm0) m args below meth c T locs cells slots) (hx : p.tables.exec = Jvm.exec) (hZ : Z.Warmed39 (s.setVm vm0).vm) {own : String} {index : Nat} {y : MethodName} {bytes : ByteArray} {maxL : Nat} {ret : Option FieldType} {rm : Room} {Q : Option Value → Heap → List Loc → Prop} (hown : (s.setVm vm0).vm.findClass own = some m.cls) (w1 : (Jvm.Cond.methodLink own index y).before a0 Z = true) (w2 : (Jvm.Cond.static y).before a0 Z = true) (w3 : (Jvm.Cond.initialized y.cls).before a0 Z = true) (w4 : (Jvm.Cond.code y bytes maxL ret).before a0 Z = true) (hy : y.cls ≠ "java/lang/invoke/MethodHandle" ∧ y.cls ≠ "java/lang/invoke/VarHandle") (HH : own_H Z EL s h0 vm0 h) (hEL : EW Z a0 EL) (eT : T.heap = h) (hf : rm.frames + 1 ≤ R.frames) {W : Nat} (hl : W + (maxL + 11) + rm.locals ≤ R.locals) (hc : cells + rm.cells ≤ R.cells) (hs : slots + rm.slots ≤ R.slots) {pc pc' : Nat} {Ls : Array Slot} (argsL rest : List Value) {st : List Value} (hsize : Ls.size = c.maxLocals) (hM : own_MetH l y bytes maxL ret rm Z EL argsL.toArray h Q)
    {ps : List FieldType} {r : Option FieldType} (hpd : parseMethodDescriptor y.desc = some ⟨ps, r⟩) (hlen : argsL.length = ps.length) (hst : st = argsL.reverse ++ rest) (hW : (rest.map fun v => v.category).sum = W) (hd : decode c.code pc = .ok (.invokestatic index, 3)) (hp : pc + 3 = pc') (k : ∀ v T' L, Stand p l e R (s.setVm T'.vm) m args below meth c T' (locs ++ L) (cells + rm.cells) (slots + rm.slots) → Q v T'.heap L → Z.Warmed39 (s.setVm T'.vm).vm → (s.setVm T'.vm).vm.findClass own = some m.cls → own_H Z EL s h0 T'.vm T'.heap → CHr Z EL vm0 h T'.vm T'.heap → own_Ends p e below Φ (T'.setTop (mkF m pc' Ls (v.toList ++ rest)))) : own_Ends p e below Φ (T.setTop (mkF m pc Ls st)) := by
  subst hp
  obtain ⟨v, _, ⟨T', L', k', n'⟩, -, X', hS', hgr, ⟨Lc, hQ, e1, e2, e3, hC⟩, st'⟩ :=  callSS X hx (y := y) hown (mvT hZ w1) (mvT hZ w2) (mvT hZ w3) (mvT hZ w4) hy (backOfSH (s := s) (vm0 := vm0) (W := W) (hM []) hZ w4 w3 hf hl hEL HH.ch) (g := mkF m pc Ls st) rfl hsize (argsL := argsL) (rest := rest) (lenOf hpd hlen) hst (by rw [← hW]; show 2 * 0 + _ ≤ _; omega) hd (fun _ _ => ⟨rfl, eT, hc, hs⟩)
  dsimp only [Pt.U, Pt.locs, Pt.cells, Pt.slots] at X' hS' hgr e1 e2 e3 hC st' hQ
  subst e1 e2 e3
  obtain ⟨hh, ⟨k0, hS, hk⟩, hC0⟩ := HH
  subst eT
  exact own_thru st' (k v T' Lc X' hQ (State.Warmed39.trans (t := s.setVm vm0) hZ hS'.1) (by rw [show (s.setVm T'.vm).vm = T'.vm from rfl, hS'.1.alike.findClass]; exact hown) ⟨hh, ⟨_, hS.trans hS' (Nat.le_trans hk hgr), Nat.le_refl _⟩, hC0.trans hC⟩ hC)
theorem own_specialH (X : Stand p l e R (s.setVm vm0) m args below meth c T locs cells slots) (hx : p.tables.exec = Jvm.exec) (hZ : Z.Warmed39 (s.setVm vm0).vm) {own : String} {index : Nat} {y : MethodName} {bytes : ByteArray} {maxL : Nat} {rm : Room} {Q : Option Value → Heap → List Loc → Prop} (hy1 : y.name = "<init>") (hown : (s.setVm vm0).vm.findClass own = some m.cls) (w1 : (Jvm.Cond.methodLink own index y).before a0 Z = true) (w2 : (Jvm.Cond.instanceMethod y).before a0 Z = true) (w3 : (Jvm.Cond.initialized y.cls).before a0 Z = true) (w4 : (Jvm.Cond.code y bytes maxL none).before a0 Z = true) (hy : y.cls ≠ "java/lang/invoke/MethodHandle" ∧ y.cls ≠ "java/lang/invoke/VarHandle") (HH : own_H Z EL s h0 vm0 h) (hEL : EW Z a0 EL) (eT : T.heap = h) (hf : rm.frames + 1 ≤ R.frames) {W : Nat} (hl : W + (maxL + 11) + rm.locals ≤ R.locals) (hc : cells + rm.cells ≤ R.cells) (hs : slots + rm.slots ≤ R.slots) {pc pc' : Nat} {Ls : Array Slot} (argsL rest : List Value) {st : List Value} (hsize : Ls.size = c.maxLocals) {a : Addr} (hM : own_MetH l y bytes maxL none rm Z EL (.ref a :: argsL).toArray h Q)
    {ps : List FieldType} {r : Option FieldType} (hpd : parseMethodDescriptor y.desc = some ⟨ps, r⟩) (hlen : argsL.length = ps.length) (hst : st = argsL.reverse ++ .ref a :: rest) (hW : (rest.map fun v => v.category).sum = W) (hd : decode c.code pc = .ok (.invokespecial index, 3)) (hp : pc + 3 = pc') (k : ∀ v T' L, Stand p l e R (s.setVm T'.vm) m args below meth c T' (locs ++ L) (cells + rm.cells) (slots + rm.slots) → Q v T'.heap L → Z.Warmed39 (s.setVm T'.vm).vm → (s.setVm T'.vm).vm.findClass own = some m.cls → own_H Z EL s h0 T'.vm T'.heap → CHr Z EL vm0 h T'.vm T'.heap → own_Ends p e below Φ (T'.setTop (mkF m pc' Ls (v.toList ++ rest)))) : own_Ends p e below Φ (T.setTop (mkF m pc Ls st)) := by
  subst hp
  obtain ⟨v, _, ⟨T', L', k', n'⟩, -, X', hS', hgr, ⟨Lc, hQ, e1, e2, e3, hC⟩, st'⟩ :=  X.specialBackS hx (y := y) hy1 hown (mvT hZ w1) (mvT hZ w2) (mvT hZ w4) hy (backOfSH (s := s) (vm0 := vm0) (W := W) (hM []) hZ w4 w3 hf hl hEL HH.ch) (g := mkF m pc Ls st) rfl hsize (Steps.refl _) (a := a) (argsL := argsL) (rest := rest) (lenOf hpd hlen) hst (by rw [← hW]; show 2 * 0 + _ ≤ _; omega) hd (fun _ _ => ⟨rfl, eT, hc, hs⟩)
  dsimp only [Pt.U, Pt.locs, Pt.cells, Pt.slots] at X' hS' hgr e1 e2 e3 hC st' hQ
  subst e1 e2 e3
  obtain ⟨hh, ⟨k0, hS, hk⟩, hC0⟩ := HH
  subst eT
  exact own_thru st' (k v T' Lc X' hQ (State.Warmed39.trans (t := s.setVm vm0) hZ hS'.1) (by rw [show (s.setVm T'.vm).vm = T'.vm from rfl, hS'.1.alike.findClass]; exact hown) ⟨hh, ⟨_, hS.trans hS' (Nat.le_trans hk hgr), Nat.le_refl _⟩, hC0.trans hC⟩ hC)
theorem own_virtualH (X : Stand p l e R (s.setVm vm0) m args below meth c T locs cells slots) (hx : p.tables.exec = Jvm.exec) (hZ : Z.Warmed39 (s.setVm vm0).vm) {own C : String} {index : Nat} {y z : MethodName} {bytes : ByteArray} {maxL : Nat} {ret : Option FieldType} {rm : Room} {Q : Option Value → Heap → List Loc → Prop} (hown : (s.setVm vm0).vm.findClass own = some m.cls) (w1 : (Jvm.Cond.methodLink own index y).before a0 Z = true) (w2 : (Jvm.Cond.declares y).before a0 Z = true) (hnf : NotFace (s.setVm vm0) y) (w3 : (Jvm.Cond.selects C y z).before a0 Z = true) (w4 : (Jvm.Cond.instanceMethod z).before a0 Z = true) (w5 : (Jvm.Cond.initialized z.cls).before a0 Z = true) (w6 : (Jvm.Cond.code z bytes maxL ret).before a0 Z = true) (hy : y.cls ≠ "java/lang/invoke/MethodHandle" ∧ y.cls ≠ "java/lang/invoke/VarHandle") (HH : own_H Z EL s h0 vm0 h) (hEL : EW Z a0 EL) (eT : T.heap = h) (hf : rm.frames + 1 ≤ R.frames) {W : Nat} (hl : W + (maxL + 11) + rm.locals ≤ R.locals) (hc : cells + rm.cells ≤ R.cells) (hs : slots + rm.slots ≤ R.slots) {pc pc' : Nat} {Ls : Array Slot} (argsL rest : List Value) {st : List Value} (hsize : Ls.size = c.maxLocals) {a : Addr} (E : Exa Z h a C) (hM : own_MetH l z bytes maxL ret rm Z EL (.ref a :: argsL).toArray h Q)
    {ps : List FieldType} {r : Option FieldType} (hpd : parseMethodDescriptor y.desc = some ⟨ps, r⟩) (hlen : argsL.length = ps.length) (hst : st = argsL.reverse ++ .ref a :: rest) (hW : (rest.map fun v => v.category).sum = W) (hd : decode c.code pc = .ok (.invokevirtual index, 3)) (hp : pc + 3 = pc') (k : ∀ v T' L, Stand p l e R (s.setVm T'.vm) m args below meth c T' (locs ++ L) (cells + rm.cells) (slots + rm.slots) → Q v T'.heap L → Z.Warmed39 (s.setVm T'.vm).vm → (s.setVm T'.vm).vm.findClass own = some m.cls → own_H Z EL s h0 T'.vm T'.heap → CHr Z EL vm0 h T'.vm T'.heap → own_Ends p e below Φ (T'.setTop (mkF m pc' Ls (v.toList ++ rest)))) : own_Ends p e below Φ (T.setTop (mkF m pc Ls st)) := by
  subst hp
  obtain ⟨cq, kq, q1, q2, q3⟩ := isOf hZ eT E
  obtain ⟨v, _, ⟨T', L', k', n'⟩, -, X', hS', hgr, ⟨Lc, hQ, e1, e2, e3, hC⟩, st'⟩ :=  X.virtualBackS hx (y := y) (z := z) hown (mvT hZ w1) (mvT hZ w2) hnf (mvT hZ w3) (mvT hZ w4) hy (backOfSH (s := s) (vm0 := vm0) (W := W) (hM []) hZ w6 w5 hf hl hEL HH.ch) q1 q3 (g := mkF m pc Ls st) rfl hsize (Steps.refl _) (argsL := argsL) (rest := rest) (lenOf hpd hlen) hst (by rw [← hW]; show 2 * 0 + _ ≤ _; omega) hd (fun _ _ => ⟨rfl, eT, hc, hs⟩)
  dsimp only [Pt.U, Pt.locs, Pt.cells, Pt.slots] at X' hS' hgr e1 e2 e3 hC st' hQ
  subst e1 e2 e3
  obtain ⟨hh, ⟨k0, hS, hk⟩, hC0⟩ := HH
  subst eT
  exact own_thru st' (k v T' Lc X' hQ (State.Warmed39.trans (t := s.setVm vm0) hZ hS'.1) (by rw [show (s.setVm T'.vm).vm = T'.vm from rfl, hS'.1.alike.findClass]; exact hown) ⟨hh, ⟨_, hS.trans hS' (Nat.le_trans hk hgr), Nat.le_refl _⟩, hC0.trans hC⟩ hC)
/-- ldc of a String literal, its text read -/
theorem own_ldcS (X : Stand p l e R (s.setVm vm0) m args below meth c T locs cells slots) (hx : p.tables.exec = Jvm.exec) (hZ : Z.Warmed39 (s.setVm vm0).vm) {own text : String} {index : Nat} (hown : (s.setVm vm0).vm.findClass own = some m.cls) (w : (Jvm.Cond.stringLink own index text).before a0 Z = true) (wS : ∀ a ∈ Bundle.stringAtoms, a.before a0 Z = true) (eT : T.heap = h) (HH : own_H Z EL s h0 vm0 h) (hEL : EW Z a0 EL) (hmem : (own, index) ∈ EL)
    {vs : List Value} {z : Int32} (ht : (∀ c ∈ text.toList, c.toNat < 256) ∧ text.toList.map (fun c => Value.int (Jvm.Lit.byteI c.toNat.toUInt16)) = vs) (hz : ¬ z < 0) (hl : z.toNatClampNeg = vs.length) {pc pc' : Nat} {Ls : Array Slot} {rest : List Value} (hd : decode c.code pc = .ok (.ldc index, 2)) (n : Nat) (hn : 4 * text.toList.length ≤ n) (hbig : n ≤ 536870912) (hc : cells + 2 ≤ R.cells) (hl' : slots + (n + 4) ≤ R.slots) (hp : pc + 2 = pc')
    (k : ∀ (a : Addr) (T' : State) (h' : Heap) (b : Addr) (kk : ClassId), Stand p l e R (s.setVm T'.vm) m args below meth c T' locs (cells + 2) (slots + (n + 4)) → T'.heap = h' → Ext h h' → Z.Warmed39 (s.setVm T'.vm).vm → (s.setVm T'.vm).vm.findClass own = some m.cls → own_H Z EL s h0 T'.vm h' → CHr Z EL vm0 h T'.vm h' → Exa Z h' a "java/lang/String" → Fld Z h' a "java/lang/String" "coder" "B" (.int 0) → Fld Z h' a "java/lang/String" "value" "[B" (.ref b) → Arv Z h' b kk .byte z vs (.int 0) → (∀ x, Safe Z EL T'.vm h' x → x ≠ a ∧ x ≠ b) → own_Ends p e below Φ (T'.setTop (mkF m pc' Ls (.ref a :: rest)))) : own_Ends p e below Φ (T.setTop (mkF m pc Ls rest)) := by
  subst hp
  obtain ⟨hh, ⟨k0, hS, hk⟩, hC0⟩ := HH
  obtain ⟨a, T', h', k1, b, kk, X', e', E', hS', hk', hZ', hown', A', c', v', V', -, -, hC, -, hne, st⟩ := ldcCH X hx hZ hown w wS eT hS hk hEL hmem hC0.1 ht hz hl (g := mkF m pc Ls rest) rfl hd hn hbig hc hl'
  exact own_via st (k a T' h' b kk X' e' E' hZ' hown' ⟨hh, ⟨k1, hS', hk'⟩, hC0.trans hC⟩ hC A' c' v' V' hne)
theorem own_retDH (X : Stand p l e R (s.setVm vm0) m args below meth c T locs cells slots) (hx : p.tables.exec = Jvm.exec) (hZ : Z.Warmed39 (s.setVm vm0).vm) (eT : T.heap = h) (HH : own_H Z EL s h0 vm0 h) (hEL : EW Z a0 EL) (hlocks : meth.locks = false) (hret : meth.sig.returnType = some .double) {pc : Nat} {Ls : Array Slot} {z : UInt64} {rest : List Value} (hd : decode c.code pc = .ok (.dreturn, 1)) {Q : Option Value → Heap → List Loc → Prop} {kc ks : Nat} (hc : cells ≤ kc) (hs : slots ≤ ks) (hq : Q (some (.double z)) T.heap locs) :
    own_Ends p e below (own_PostH Z EL s Q kc ks) (T.setTop (mkF m pc Ls (.double z :: rest))) :=
  own_leaveH X hlocks (v := some (.double z)) (fun h => by rw [hret] at h; cases h) hZ eT HH hEL hc hs hq (fun fs hr => retOut X hx hret (w := .double z) rfl (Or.inr (Or.inr (Or.inl ⟨rfl, rfl, z, rfl⟩))) hd hr)
end OwnKitH
section OwnKitB
variable {p : Program} {l : Launch} {e : Env} {R : Room} {s : State} {m : MethodId} {args : Array Value} {below : List Frame} {meth : Method} {c : Code} {T : State} {locs : List Loc} {cells slots : Nat} {Z : State} {a0 : Array Value} {h : Heap} {Φ : Outcome → State → Prop}
theorem own_staticB (X : Stand p l e R s m args below meth c T locs cells slots) (hx : p.tables.exec = Jvm.exec) (hZ : Z.Warmed39 s.vm) {own : String} {index : Nat} {y : MethodName} {bytes : ByteArray} {maxL : Nat} {ret : Option FieldType} (hown : s.vm.findClass own = some m.cls) (w1 : (Jvm.Cond.methodLink own index y).before a0 Z = true) (w2 : (Jvm.Cond.static y).before a0 Z = true) (w3 : (Jvm.Cond.initialized y.cls).before a0 Z = true) (w4 : (Jvm.Cond.code y bytes maxL ret).before a0 Z = true) (hy : y.cls ≠ "java/lang/invoke/MethodHandle" ∧ y.cls ≠ "java/lang/invoke/VarHandle") {ce sl : Nat} (eT : T.heap = h) {W : Nat} (hc : cells + ce ≤ R.cells) (hs : slots + sl ≤ R.slots) {pc pc' : Nat} {Ls : Array Slot} (argsL rest : List Value) {st : List Value} (hsize : Ls.size = c.maxLocals) (Q : Option Value → Heap → List Loc → Prop) (hK : Back l R p e below s args y 3 W (fun P a' => a' = argsL.toArray ∧ P.U.heap = h ∧ P.cells + ce ≤ R.cells ∧ P.slots + sl ≤ R.slots) (fun P _ v B => ∃ L, Q v B.U.heap L ∧ B.locs = P.locs ++ L ∧ B.cells = P.cells + ce ∧ B.slots = P.slots + sl))
    {ps : List FieldType} {r : Option FieldType} (hpd : parseMethodDescriptor y.desc = some ⟨ps, r⟩) (hlen : argsL.length = ps.length) (hst : st = argsL.reverse ++ rest) (hW : (rest.map fun v => v.category).sum = W) (hd : decode c.code pc = .ok (.invokestatic index, 3)) (hp : pc + 3 = pc') (k : ∀ v T' L, Stand p l e R s m args below meth c T' (locs ++ L) (cells + ce) (slots + sl) → Q v T'.heap L → own_Ends p e below Φ (T'.setTop (mkF m pc' Ls (v.toList ++ rest)))) : own_Ends p e below Φ (T.setTop (mkF m pc Ls st)) := by
  subst hp
  obtain ⟨v, _, ⟨T', L', k', n'⟩, -, X', ⟨Lc, hQ, e1, e2, e3⟩, st'⟩ :=  Jvm.LawKit.callS X hx (y := y) hown (mvT hZ w1) (mvT hZ w2) (mvT hZ w3) (mvT hZ w4) hy hK (g := mkF m pc Ls st) rfl hsize (argsL := argsL) (rest := rest) (lenOf hpd hlen) hst (by rw [← hW]; show 2 * 0 + _ ≤ _; omega) hd (fun _ _ => ⟨rfl, eT, hc, hs⟩)
  dsimp only [Pt.U, Pt.locs, Pt.cells, Pt.slots] at X' e1 e2 e3 st' hQ
  subst e1 e2 e3
  exact own_via st' (k v T' Lc X' hQ)
theorem own_specialB (X : Stand p l e R s m args below meth c T locs cells slots) (hx : p.tables.exec = Jvm.exec) (hZ : Z.Warmed39 s.vm) {own : String} {index : Nat} {y : MethodName} {bytes : ByteArray} {maxL : Nat} (hy1 : y.name = "<init>") (hown : s.vm.findClass own = some m.cls) (w1 : (Jvm.Cond.methodLink own index y).before a0 Z = true) (w2 : (Jvm.Cond.instanceMethod y).before a0 Z = true) (w4 : (Jvm.Cond.code y bytes maxL none).before a0 Z = true) (hy : y.cls ≠ "java/lang/invoke/MethodHandle" ∧ y.cls ≠ "java/lang/invoke/VarHandle") {ce sl : Nat} (eT : T.heap = h) {W : Nat} (hc : cells + ce ≤ R.cells) (hs : slots + sl ≤ R.slots) {pc pc' : Nat} {Ls : Array Slot} (argsL rest : List Value) {st : List Value} (hsize : Ls.size = c.maxLocals) {a : Addr} (Q : Option Value → Heap → List Loc → Prop) (hK : Back l R p e below s args y 3 W (fun P a' => a' = (.ref a :: argsL).toArray ∧ P.U.heap = h ∧ P.cells + ce ≤ R.cells ∧ P.slots + sl ≤ R.slots) (fun P _ v B => ∃ L, Q v B.U.heap L ∧ B.locs = P.locs ++ L ∧ B.cells = P.cells + ce ∧ B.slots = P.slots + sl))
    {ps : List FieldType} {r : Option FieldType} (hpd : parseMethodDescriptor y.desc = some ⟨ps, r⟩) (hlen : argsL.length = ps.length) (hst : st = argsL.reverse ++ .ref a :: rest) (hW : (rest.map fun v => v.category).sum = W) (hd : decode c.code pc = .ok (.invokespecial index, 3)) (hp : pc + 3 = pc') (k : ∀ v T' L, Stand p l e R s m args below meth c T' (locs ++ L) (cells + ce) (slots + sl) → Q v T'.heap L → own_Ends p e below Φ (T'.setTop (mkF m pc' Ls (v.toList ++ rest)))) : own_Ends p e below Φ (T.setTop (mkF m pc Ls st)) := by
  subst hp
  obtain ⟨v, _, ⟨T', L', k', n'⟩, -, X', ⟨Lc, hQ, e1, e2, e3⟩, st'⟩ :=  X.specialBack hx (y := y) hy1 hown (mvT hZ w1) (mvT hZ w2) (mvT hZ w4) hy hK (g := mkF m pc Ls st) rfl hsize (Steps.refl _) (a := a) (argsL := argsL) (rest := rest) (lenOf hpd hlen) hst (by rw [← hW]; show 2 * 0 + _ ≤ _; omega) hd (fun _ _ => ⟨rfl, eT, hc, hs⟩)
  dsimp only [Pt.U, Pt.locs, Pt.cells, Pt.slots] at X' e1 e2 e3 st' hQ
  subst e1 e2 e3
  exact own_thru st' (k v T' Lc X' hQ)
theorem own_virtualB (X : Stand p l e R s m args below meth c T locs cells slots) (hx : p.tables.exec = Jvm.exec) (hZ : Z.Warmed39 s.vm) {own C : String} {index : Nat} {y z : MethodName} (hown : s.vm.findClass own = some m.cls) (w1 : (Jvm.Cond.methodLink own index y).before a0 Z = true) (w2 : (Jvm.Cond.declares y).before a0 Z = true) (hnf : NotFace s y) (w3 : (Jvm.Cond.selects C y z).before a0 Z = true) (w4 : (Jvm.Cond.instanceMethod z).before a0 Z = true) (hy : y.cls ≠ "java/lang/invoke/MethodHandle" ∧ y.cls ≠ "java/lang/invoke/VarHandle") {ce sl : Nat} (eT : T.heap = h) {W : Nat} (hc : cells + ce ≤ R.cells) (hs : slots + sl ≤ R.slots) {pc pc' : Nat} {Ls : Array Slot} (argsL rest : List Value) {st : List Value} (hsize : Ls.size = c.maxLocals) {a : Addr} (E : Exa Z h a C) (Q : Option Value → Heap → List Loc → Prop) (hK : Back l R p e below s args z 3 W (fun P a' => a' = (.ref a :: argsL).toArray ∧ P.U.heap = h ∧ P.cells + ce ≤ R.cells ∧ P.slots + sl ≤ R.slots) (fun P _ v B => ∃ L, Q v B.U.heap L ∧ B.locs = P.locs ++ L ∧ B.cells = P.cells + ce ∧ B.slots = P.slots + sl))
    {ps : List FieldType} {r : Option FieldType} (hpd : parseMethodDescriptor y.desc = some ⟨ps, r⟩) (hlen : argsL.length = ps.length) (hst : st = argsL.reverse ++ .ref a :: rest) (hW : (rest.map fun v => v.category).sum = W) (hd : decode c.code pc = .ok (.invokevirtual index, 3)) (hp : pc + 3 = pc') (k : ∀ v T' L, Stand p l e R s m args below meth c T' (locs ++ L) (cells + ce) (slots + sl) → Q v T'.heap L → own_Ends p e below Φ (T'.setTop (mkF m pc' Ls (v.toList ++ rest)))) : own_Ends p e below Φ (T.setTop (mkF m pc Ls st)) := by
  subst hp
  obtain ⟨cq, kq, q1, q2, q3⟩ := isOf hZ eT E
  obtain ⟨v, _, ⟨T', L', k', n'⟩, -, X', ⟨Lc, hQ, e1, e2, e3⟩, st'⟩ :=  X.virtualBack hx (y := y) (z := z) hown (mvT hZ w1) (mvT hZ w2) hnf (mvT hZ w3) (mvT hZ w4) hy hK q1 q3 (g := mkF m pc Ls st) rfl hsize (Steps.refl _) (argsL := argsL) (rest := rest) (lenOf hpd hlen) hst (by rw [← hW]; show 2 * 0 + _ ≤ _; omega) hd (fun _ _ => ⟨rfl, eT, hc, hs⟩)
  dsimp only [Pt.U, Pt.locs, Pt.cells, Pt.slots] at X' e1 e2 e3 st' hQ
  subst e1 e2 e3
  exact own_thru st' (k v T' Lc X' hQ)
theorem own_iface (X : Stand p l e R s m args below meth c T locs cells slots) (hx : p.tables.exec = Jvm.exec) (hZ : Z.Warmed39 s.vm) {own C : String} {index count : Nat} {xi y : MethodName} {bytes : ByteArray} {maxL : Nat} {ret : Option FieldType} {rm : Room} {Q : Option Value → Heap → List Loc → Prop} (hown : s.vm.findClass own = some m.cls) (w1 : (Jvm.Cond.methodLink own index xi).before a0 Z = true) (w2 : (Jvm.Cond.declares xi).before a0 Z = true) (wf : (Jvm.Cond.interfaceMethod xi.cls xi.cls xi.name xi.desc).before args s = true) (w3 : (Jvm.Cond.selects C xi y).before a0 Z = true) (w4 : (Jvm.Cond.instanceMethod y).before a0 Z = true) (wp : (Jvm.Cond.publicMethod y).before a0 Z = true) (wu : (Jvm.Cond.unhidden C xi.name xi.desc).before a0 Z = true) (wc : (Jvm.Cond.castable C xi.cls).before a0 Z = true) (w5 : (Jvm.Cond.initialized y.cls).before a0 Z = true) (w6 : (Jvm.Cond.code y bytes maxL ret).before a0 Z = true) (hy : xi.cls ≠ "java/lang/invoke/MethodHandle" ∧ xi.cls ≠ "java/lang/invoke/VarHandle") (eT : T.heap = h) (hf : rm.frames + 1 ≤ R.frames) {W : Nat} (hl : W + (maxL + 11) + rm.locals ≤ R.locals) (hc : cells + rm.cells ≤ R.cells) (hs : slots + rm.slots ≤ R.slots) {pc pc' : Nat} {Ls : Array Slot} (argsL rest : List Value) {st : List Value} (hsize : Ls.size = c.maxLocals) {a : Addr} (E : Exa Z h a C) (hM : own_Met l y bytes maxL ret rm Z (.ref a :: argsL).toArray h Q)
    {ps : List FieldType} {r : Option FieldType} (hpd : parseMethodDescriptor xi.desc = some ⟨ps, r⟩) (hlen : argsL.length = ps.length) (hst : st = argsL.reverse ++ .ref a :: rest) (hW : (rest.map fun v => v.category).sum = W) (hd : decode c.code pc = .ok (.invokeinterface index count, 5)) (hp : pc + 5 = pc') (k : ∀ v T' L, Stand p l e R s m args below meth c T' (locs ++ L) (cells + rm.cells) (slots + rm.slots) → Q v T'.heap L → own_Ends p e below Φ (T'.setTop (mkF m pc' Ls (v.toList ++ rest)))) : own_Ends p e below Φ (T.setTop (mkF m pc Ls st)) := by
  subst hp
  obtain ⟨cq, kq, q1, q2, q3⟩ := isOf hZ eT E
  obtain ⟨v, _, ⟨T', L', k', n'⟩, -, X', ⟨Lc, hQ, e1, e2, e3⟩, st'⟩ :=  X.interfaceBack hx (xi := xi) (y := y) hown (mvT hZ w1) (mvT hZ w2) wf (mvT hZ w3) (mvT hZ w4) (mvT hZ wp) (mvT hZ wu) (mvT hZ wc) hy (backOf (W := W) (hM []) hZ w6 w5 hf hl) q1 q2 q3 (g := mkF m pc Ls st) rfl hsize (Steps.refl _) (argsL := argsL) (rest := rest) (lenOf hpd hlen) hst (by rw [← hW]; show 2 * 0 + _ ≤ _; omega) hd (fun _ _ => ⟨rfl, eT, hc, hs⟩)
  dsimp only [Pt.U, Pt.locs, Pt.cells, Pt.slots] at X' e1 e2 e3 st' hQ
  subst e1 e2 e3
  exact own_thru st' (k v T' Lc X' hQ)
theorem own_insK {h' : Heap} {a : Addr} {C : String} {b : Bool} {ws : List Addr} (F : Ins Z h a C b) (K : Keep h h' ws) : Ins Z h' a C b := by
  obtain ⟨cell, cT, h1, h2, h3⟩ := F
  obtain ⟨c', q, r1, r2, -⟩ := K.2.2 a cell h1
  exact ⟨c', cT, q, h2, by rw [r1, r2]; exact h3⟩
end OwnKitB
section OwnKitA
variable {p : Program} {l : Launch} {e : Env} {R : Room} {s : State} {m : MethodId} {args : Array Value} {below : List Frame} {meth : Method} {c : Code} {T : State} {locs : List Loc} {cells slots : Nat} {Z : State} {a0 : Array Value} {h : Heap} {Φ : Outcome → State → Prop}
theorem own_newP (X : Stand p l e R s m args below meth c T locs cells slots) (hx : p.tables.exec = Jvm.exec) (hZ : Z.Warmed39 s.vm) {aty : ArrayType} (w : (Jvm.Cond.arrayClass (newarray.typeOf aty)).before a0 Z = true) (eT : T.heap = h) {pc pc' : Nat} {Ls : Array Slot} {rest : List Value} {n : Int32} (hd : decode c.code pc = .ok (.newarray aty, 2)) (hn : ¬ n < 0) (cap : Nat) (hcap : n.toNatClampNeg ≤ cap) (hb : cap * 8 ≤ 536870912) (hc : cells + 1 ≤ R.cells) (hl : slots + cap ≤ R.slots) (hp : pc + 2 = pc')
    (k : ∀ T' h' b kk, Stand p l e R s m args below meth c T' locs (cells + 1) (slots + cap) → T'.heap = h' → b = h.size → Ext h h' → Arv Z h' b kk (newarray.typeOf aty) n [] (defaultValue (newarray.typeOf aty)) → own_Ends p e below Φ (T'.setTop (mkF m pc' Ls (.ref b :: rest)))) : own_Ends p e below Φ (T.setTop (mkF m pc Ls (.int n :: rest))) := by
  subst hp; obtain ⟨T', h', cA, X', e', E', A', st⟩ := newP X hx hZ w eT (g := mkF m pc Ls (.int n :: rest)) rfl hd rfl hn hcap hb hc hl
  exact own_via st (k T' h' _ cA X' e' rfl E' (Arv.new A' hn))
theorem own_stC (X : Stand p l e R s m args below meth c T locs cells slots) (hx : p.tables.exec = Jvm.exec) (hZ : Z.Warmed39 s.vm) (eT : T.heap = h) {a : Addr} {kk : ClassId} {z : Int32} {vs : List Value} {dv : Value} (A : Arv Z h a kk .char z vs dv) {j : Int32} {x : Int32} (hj : ¬ j < 0 ∧ j < z) (i : Nat) (hi : j.toNatClampNeg = i) (hlen : i < vs.length) (hn : nar .char x = x) {n0 : Nat} (N : Fr n0 locs) (g : n0 ≤ a) {pc pc' : Nat} {Ls : Array Slot} {rest : List Value} (hd : decode c.code pc = .ok (.castore, 1)) (hp : pc + 1 = pc')
    (k : ∀ T' h', Stand p l e R s m args below meth c T' (locs ++ [⟨a, j.toNatClampNeg⟩]) cells slots → T'.heap = h' → Wr h h' a j.toNatClampNeg (.int x) → Fr n0 (locs ++ [⟨a, j.toNatClampNeg⟩]) → Arv Z h' a kk .char z (vs.set i (.int x)) dv → own_Ends p e below Φ (T'.setTop (mkF m pc' Ls rest))) : own_Ends p e below Φ (T.setTop (mkF m pc Ls (.int x :: .int j :: .ref a :: rest))) := by
  subst hp; obtain ⟨cl, Ar, q, S, Nn, H, G⟩ := A
  obtain ⟨T', h', X', e', W', st⟩ := Jvm.RoadKit.stC X hx hZ eT Ar (j := j) (x := x) (inb_of S hj) (g := mkF m pc Ls (.int x :: .int j :: .ref a :: rest)) rfl rfl hd
  have W' : Wr h h' a j.toNatClampNeg (.int (nar .char x)) := W'
  have hf := fits_nar_char x
  rw [hn] at W' hf
  exact own_via st (k T' h' X' e' W' (Fr.snoc X' N g) (Arv.set Ar q S Nn H G hf W' i hi hlen))
theorem own_stI (X : Stand p l e R s m args below meth c T locs cells slots) (hx : p.tables.exec = Jvm.exec) (hZ : Z.Warmed39 s.vm) (eT : T.heap = h) {a : Addr} {kk : ClassId} {z : Int32} {vs : List Value} {dv : Value} (A : Arv Z h a kk .int z vs dv) {j : Int32} {x : Int32} (hj : ¬ j < 0 ∧ j < z) (i : Nat) (hi : j.toNatClampNeg = i) (hlen : i < vs.length) {n0 : Nat} (N : Fr n0 locs) (g : n0 ≤ a) {pc pc' : Nat} {Ls : Array Slot} {rest : List Value} (hd : decode c.code pc = .ok (.iastore, 1)) (hp : pc + 1 = pc')
    (k : ∀ T' h', Stand p l e R s m args below meth c T' (locs ++ [⟨a, j.toNatClampNeg⟩]) cells slots → T'.heap = h' → Wr h h' a j.toNatClampNeg (.int x) → Fr n0 (locs ++ [⟨a, j.toNatClampNeg⟩]) → Arv Z h' a kk .int z (vs.set i (.int x)) dv → own_Ends p e below Φ (T'.setTop (mkF m pc' Ls rest))) : own_Ends p e below Φ (T.setTop (mkF m pc Ls (.int x :: .int j :: .ref a :: rest))) := by
  subst hp; obtain ⟨cl, Ar, q, S, Nn, H, G⟩ := A
  obtain ⟨T', h', X', e', W', st⟩ := Jvm.RoadKit.stI X hx hZ eT Ar (j := j) (x := x) (inb_of S hj) (g := mkF m pc Ls (.int x :: .int j :: .ref a :: rest)) rfl rfl hd
  skip
  exact own_via st (k T' h' X' e' W' (Fr.snoc X' N g) (Arv.set Ar q S Nn H G rfl W' i hi hlen))
theorem own_stB (X : Stand p l e R s m args below meth c T locs cells slots) (hx : p.tables.exec = Jvm.exec) (hZ : Z.Warmed39 s.vm) (eT : T.heap = h) {a : Addr} {kk : ClassId} {z : Int32} {vs : List Value} {dv : Value} (A : Arv Z h a kk .byte z vs dv) {j : Int32} {x : Int32} (hj : ¬ j < 0 ∧ j < z) (i : Nat) (hi : j.toNatClampNeg = i) (hlen : i < vs.length) (hn : x.toInt8.toInt32 = x) {n0 : Nat} (N : Fr n0 locs) (g : n0 ≤ a) {pc pc' : Nat} {Ls : Array Slot} {rest : List Value} (hd : decode c.code pc = .ok (.bastore, 1)) (hp : pc + 1 = pc')
    (k : ∀ T' h', Stand p l e R s m args below meth c T' (locs ++ [⟨a, j.toNatClampNeg⟩]) cells slots → T'.heap = h' → Wr h h' a j.toNatClampNeg (.int x) → Fr n0 (locs ++ [⟨a, j.toNatClampNeg⟩]) → Arv Z h' a kk .byte z (vs.set i (.int x)) dv → own_Ends p e below Φ (T'.setTop (mkF m pc' Ls rest))) : own_Ends p e below Φ (T.setTop (mkF m pc Ls (.int x :: .int j :: .ref a :: rest))) := by
  subst hp; obtain ⟨cl, Ar, q, S, Nn, H, G⟩ := A
  obtain ⟨T', h', X', e', W', st⟩ := Jvm.RoadKit.stB X hx hZ eT Ar (j := j) (x := x) (inb_of S hj) (g := mkF m pc Ls (.int x :: .int j :: .ref a :: rest)) rfl rfl hd
  have W' : Wr h h' a j.toNatClampNeg (.int x.toInt8.toInt32) := W'
  have hf := fits_nar_byte x
  rw [hn] at W' hf
  exact own_via st (k T' h' X' e' W' (Fr.snoc X' N g) (Arv.set Ar q S Nn H G hf W' i hi hlen))
theorem own_stR (X : Stand p l e R s m args below meth c T locs cells slots) (hx : p.tables.exec = Jvm.exec) (hZ : Z.Warmed39 s.vm) (eT : T.heap = h) {a : Addr} {kk : ClassId} {z : Int32} {ty : FieldType} {vs : List Value} {dv : Value} (A : Arv Z h a kk ty z vs dv) (hty : ty.isReference = true) {j : Int32} {v : Value} (hv : fits ty v = true) (F : Sto Z h a v) (hj : ¬ j < 0 ∧ j < z) (i : Nat) (hi : j.toNatClampNeg = i) (hlen : i < vs.length) {n0 : Nat} (N : Fr n0 locs) (g : n0 ≤ a) {pc pc' : Nat} {Ls : Array Slot} {rest : List Value} (hd : decode c.code pc = .ok (.aastore, 1)) (hp : pc + 1 = pc')
    (k : ∀ T' h', Stand p l e R s m args below meth c T' (locs ++ [⟨a, j.toNatClampNeg⟩]) cells slots → T'.heap = h' → Wr h h' a j.toNatClampNeg v → Fr n0 (locs ++ [⟨a, j.toNatClampNeg⟩]) → Arv Z h' a kk ty z (vs.set i v) dv → own_Ends p e below Φ (T'.setTop (mkF m pc' Ls rest))) : own_Ends p e below Φ (T.setTop (mkF m pc Ls (v :: .int j :: .ref a :: rest))) := by
  subst hp; obtain ⟨cl, Ar, q, S, Nn, H, G⟩ := A
  obtain ⟨T', h', X', e', W', st⟩ := Jvm.RoadKit.stR X hx hZ eT Ar (j := j) (inb_of S hj) hty F (g := mkF m pc Ls (v :: .int j :: .ref a :: rest)) rfl rfl hd
  exact own_via st (k T' h' X' e' W' (Fr.snoc X' N g) (Arv.set Ar q S Nn H G hv W' i hi hlen))
theorem own_newR (X : Stand p l e R s m args below meth c T locs cells slots) (hx : p.tables.exec = Jvm.exec) (hZ : Z.Warmed39 s.vm) {own C : String} {index : Nat} (hown : s.vm.findClass own = some m.cls) (w1 : (Jvm.Cond.classLink own index C).before a0 Z = true) (w2 : (Jvm.Cond.arrayOver (.object C)).before a0 Z = true) (eT : T.heap = h) {pc pc' : Nat} {Ls : Array Slot} {rest : List Value} {n : Int32} (hd : decode c.code pc = .ok (.anewarray index, 3)) (hn : ¬ n < 0) (cap : Nat) (hcap : n.toNatClampNeg ≤ cap) (hb : cap * 8 ≤ 536870912) (hc : cells + 1 ≤ R.cells) (hl : slots + cap ≤ R.slots) (hp : pc + 3 = pc')
    (k : ∀ T' h' b kk, Stand p l e R s m args below meth c T' locs (cells + 1) (slots + cap) → T'.heap = h' → b = h.size → Ext h h' → Arv Z h' b kk (.object C) n [] .null → Ovr Z kk C → own_Ends p e below Φ (T'.setTop (mkF m pc' Ls (.ref b :: rest)))) : own_Ends p e below Φ (T.setTop (mkF m pc Ls (.int n :: rest))) := by
  subst hp; obtain ⟨T', h', cA, X', e', E', A', O', st⟩ := newR X hx hZ hown w1 w2 eT (g := mkF m pc Ls (.int n :: rest)) rfl hd rfl hn hcap hb hc hl
  exact own_via st (k T' h' _ cA X' e' rfl E' (Arv.new A' hn) O')
theorem own_arraylength (X : Stand p l e R s m args below meth c T locs cells slots) (hx : p.tables.exec = Jvm.exec) (hZ : Z.Warmed39 s.vm) (eT : T.heap = h) {a : Addr} {kk : ClassId} {z : Int32} {ty : FieldType} {vs : List Value} {dv : Value} (A : Arv Z h a kk ty z vs dv) {pc pc' : Nat} {Ls : Array Slot} {rest : List Value} (hd : decode c.code pc = .ok (.arraylength, 1)) (hp : pc + 1 = pc') (k : own_Ends p e below Φ (T.setTop (mkF m pc' Ls (.int z :: rest)))) : own_Ends p e below Φ (T.setTop (mkF m pc Ls (.ref a :: rest))) := by
  subst hp; obtain ⟨cl, Ar, q, S, Nn, H, G⟩ := A
  refine own_via (X.arraylength hx (by rw [eT]; exact Ar.1) (State.isArrayOf_alike hZ.alike Ar.2.1) (g := mkF m pc Ls (.ref a :: rest)) rfl rfl hd) ?_
  rw [len_of S Nn]; exact k
theorem own_iaload (X : Stand p l e R s m args below meth c T locs cells slots) (hx : p.tables.exec = Jvm.exec) (hZ : Z.Warmed39 s.vm) (eT : T.heap = h) {a : Addr} {kk : ClassId} {z : Int32} {vs : List Value} {dv : Value} (A : Arv Z h a kk .int z vs dv) {j : Int32} {x : Int32} (hj : ¬ j < 0 ∧ j < z) (hv : vs.getD j.toNatClampNeg dv = .int x) {pc pc' : Nat} {Ls : Array Slot} {rest : List Value} (hd : decode c.code pc = .ok (.iaload, 1)) (hp : pc + 1 = pc') (k : own_Ends p e below Φ (T.setTop (mkF m pc' Ls (.int x :: rest)))) : own_Ends p e below Φ (T.setTop (mkF m pc Ls (.int j :: .ref a :: rest))) := by
  subst hp; obtain ⟨cl, Ar, q, S, Nn, H, G⟩ := A
  exact own_via (X.iaload hx (j := j) (v := .int x) (by rw [eT]; exact Ar.1) (State.isArrayOf_alike hZ.alike Ar.2.1) Ar.2.2 (inb_of S hj) (H.at (inb_of S hj) hv) (g := mkF m pc Ls (.int j :: .ref a :: rest)) rfl rfl hd) k
theorem own_caload (X : Stand p l e R s m args below meth c T locs cells slots) (hx : p.tables.exec = Jvm.exec) (hZ : Z.Warmed39 s.vm) (eT : T.heap = h) {a : Addr} {kk : ClassId} {z : Int32} {vs : List Value} {dv : Value} (A : Arv Z h a kk .char z vs dv) {j : Int32} {x : Int32} (hj : ¬ j < 0 ∧ j < z) (hv : vs.getD j.toNatClampNeg dv = .int x) {pc pc' : Nat} {Ls : Array Slot} {rest : List Value} (hd : decode c.code pc = .ok (.caload, 1)) (hp : pc + 1 = pc') (k : own_Ends p e below Φ (T.setTop (mkF m pc' Ls (.int x :: rest)))) : own_Ends p e below Φ (T.setTop (mkF m pc Ls (.int j :: .ref a :: rest))) := by
  subst hp; obtain ⟨cl, Ar, q, S, Nn, H, G⟩ := A
  exact own_via (X.caload hx (j := j) (v := .int x) (by rw [eT]; exact Ar.1) (State.isArrayOf_alike hZ.alike Ar.2.1) Ar.2.2 (inb_of S hj) (H.at (inb_of S hj) hv) (g := mkF m pc Ls (.int j :: .ref a :: rest)) rfl rfl hd) k
theorem own_baloadBytes (X : Stand p l e R s m args below meth c T locs cells slots) (hx : p.tables.exec = Jvm.exec) (hZ : Z.Warmed39 s.vm) (eT : T.heap = h) {a : Addr} {kk : ClassId} {z : Int32} {vs : List Value} {dv : Value} (A : Arv Z h a kk .byte z vs dv) {j : Int32} {x : Int32} (hj : ¬ j < 0 ∧ j < z) (hv : vs.getD j.toNatClampNeg dv = .int x) {pc pc' : Nat} {Ls : Array Slot} {rest : List Value} (hd : decode c.code pc = .ok (.baload, 1)) (hp : pc + 1 = pc') (k : own_Ends p e below Φ (T.setTop (mkF m pc' Ls (.int x :: rest)))) : own_Ends p e below Φ (T.setTop (mkF m pc Ls (.int j :: .ref a :: rest))) := by
  subst hp; obtain ⟨cl, Ar, q, S, Nn, H, G⟩ := A
  exact own_via (X.baloadBytes hx (j := j) (v := .int x) (by rw [eT]; exact Ar.1) (State.isArrayOf_alike hZ.alike Ar.2.1) Ar.2.2 (inb_of S hj) (H.at (inb_of S hj) hv) (g := mkF m pc Ls (.int j :: .ref a :: rest)) rfl rfl hd) k
theorem own_aaload (X : Stand p l e R s m args below meth c T locs cells slots) (hx : p.tables.exec = Jvm.exec) (hZ : Z.Warmed39 s.vm) (eT : T.heap = h) {a : Addr} {kk : ClassId} {z : Int32} {ty : FieldType} (hty : ty.isReference = true) {vs : List Value} {dv : Value} (A : Arv Z h a kk ty z vs dv) {j : Int32} {v : Value} (hj : ¬ j < 0 ∧ j < z) (hv : vs.getD j.toNatClampNeg dv = v) {pc pc' : Nat} {Ls : Array Slot} {rest : List Value} (hd : decode c.code pc = .ok (.aaload, 1)) (hp : pc + 1 = pc') (k : own_Ends p e below Φ (T.setTop (mkF m pc' Ls (v :: rest)))) : own_Ends p e below Φ (T.setTop (mkF m pc Ls (.int j :: .ref a :: rest))) := by
  subst hp; obtain ⟨cl, Ar, q, S, Nn, H, G⟩ := A
  exact own_via (X.aaload hx (j := j) (v := v) (by rw [eT]; exact Ar.1) (State.isArrayOf_alike hZ.alike Ar.2.1) hty Ar.2.2 (inb_of S hj) (H.at (inb_of S hj) hv) (g := mkF m pc Ls (.int j :: .ref a :: rest)) rfl rfl hd) k
theorem own_castY (X : Stand p l e R s m args below meth c T locs cells slots) (hx : p.tables.exec = Jvm.exec) (hZ : Z.Warmed39 s.vm) {own C : String} {index : Nat} (hown : s.vm.findClass own = some m.cls) (w : (Jvm.Cond.classLink own index C).before a0 Z = true) (eT : T.heap = h) {a : Addr} (F : Ins Z h a C true) {pc pc' : Nat} {Ls : Array Slot} {rest : List Value} (hd : decode c.code pc = .ok (.checkcast index, 3)) (hp : pc + 3 = pc') (k : ∀ T', Stand p l e R s m args below meth c T' locs cells slots → T'.heap = h → own_Ends p e below Φ (T'.setTop (mkF m pc' Ls (.ref a :: rest)))) : own_Ends p e below Φ (T.setTop (mkF m pc Ls (.ref a :: rest))) := by
  subst hp; obtain ⟨T', X', e', st⟩ := castY X hx hZ hown w eT F (g := mkF m pc Ls (.ref a :: rest)) rfl rfl hd
  exact own_via st (k T' X' e')
theorem own_castN (X : Stand p l e R s m args below meth c T locs cells slots) (hx : p.tables.exec = Jvm.exec) {index : Nat} {pc pc' : Nat} {Ls : Array Slot} {rest : List Value} (hd : decode c.code pc = .ok (.checkcast index, 3)) (hp : pc + 3 = pc') (k : own_Ends p e below Φ (T.setTop (mkF m pc' Ls (.null :: rest)))) : own_Ends p e below Φ (T.setTop (mkF m pc Ls (.null :: rest))) := by
  subst hp; exact own_via (fun _ q => X.checkcastNull hx (g := mkF m pc Ls (.null :: rest)) rfl rfl hd _ q) k
theorem own_instY (X : Stand p l e R s m args below meth c T locs cells slots) (hx : p.tables.exec = Jvm.exec) (hZ : Z.Warmed39 s.vm) {own C : String} {index : Nat} (hown : s.vm.findClass own = some m.cls) (w : (Jvm.Cond.classLink own index C).before a0 Z = true) (eT : T.heap = h) {a : Addr} (F : Ins Z h a C true) {pc pc' : Nat} {Ls : Array Slot} {rest : List Value} (hd : decode c.code pc = .ok (.instanceof index, 3)) (hp : pc + 3 = pc') (k : ∀ T', Stand p l e R s m args below meth c T' locs cells slots → T'.heap = h → own_Ends p e below Φ (T'.setTop (mkF m pc' Ls (.int 1 :: rest)))) : own_Ends p e below Φ (T.setTop (mkF m pc Ls (.ref a :: rest))) := by
  subst hp; obtain ⟨T', X', e', st⟩ := instY X hx hZ hown w eT F (g := mkF m pc Ls (.ref a :: rest)) rfl rfl hd
  exact own_via st (k T' X' e')
theorem own_instNull (X : Stand p l e R s m args below meth c T locs cells slots) (hx : p.tables.exec = Jvm.exec) {index : Nat} {pc pc' : Nat} {Ls : Array Slot} {rest : List Value} (hd : decode c.code pc = .ok (.instanceof index, 3)) (hp : pc + 3 = pc') (k : own_Ends p e below Φ (T.setTop (mkF m pc' Ls (.int 0 :: rest)))) : own_Ends p e below Φ (T.setTop (mkF m pc Ls (.null :: rest))) := by
  subst hp; exact own_via (fun _ q => X.instanceofNull hx (g := mkF m pc Ls (.null :: rest)) rfl rfl hd _ q) k
theorem own_instN (X : Stand p l e R s m args below meth c T locs cells slots) (hx : p.tables.exec = Jvm.exec) (hZ : Z.Warmed39 s.vm) {own K C : String} {index : Nat} (hown : s.vm.findClass own = some m.cls) (w : (Jvm.Cond.classLink own index K).before a0 Z = true) (eT : T.heap = h) {a : Addr} (E : Exa Z h a C) (F : ∃ c t, Z.vm.findClass C = some c ∧ Z.vm.findClass K = some t ∧ Z.vm.assignable c t = false) {pc pc' : Nat} {Ls : Array Slot} {rest : List Value} (hd : decode c.code pc = .ok (.instanceof index, 3)) (hp : pc + 3 = pc') (k : ∀ T', Stand p l e R s m args below meth c T' locs cells slots → T'.heap = h → own_Ends p e below Φ (T'.setTop (mkF m pc' Ls (.int 0 :: rest)))) : own_Ends p e below Φ (T.setTop (mkF m pc Ls (.ref a :: rest))) := by
  subst hp; obtain ⟨T', X', e', st⟩ := instNo X hx hZ hown w eT E F (g := mkF m pc Ls (.ref a :: rest)) rfl rfl hd
  exact own_via st (k T' X' e')
theorem own_neV {a b : Addr} {k1 k2 : ClassId} {t1 t2 : FieldType} {z1 z2 : Int32} {v1 v2 : List Value} {d1 d2 : Value} (A : Arv Z h a k1 t1 z1 v1 d1) (B : Arv Z h b k2 t2 z2 v2 d2) (hn : t1 ≠ t2) : a ≠ b := fun e => by
  subst e
  obtain ⟨c1, A1, -⟩ := A
  obtain ⟨c2, B1, -⟩ := B
  cases A1.1.symm.trans B1.1
  obtain ⟨-, k3, j1, comp, j2⟩ := A1.2.1
  obtain ⟨-, k4, i1, comp', i2⟩ := B1.2.1
  cases j1.symm.trans i1
  have := j2.symm.trans i2
  injection this with _ q
  exact hn q
theorem own_sto {a y : Addr} {kk : ClassId} {ty : FieldType} {z : Int32} {vs : List Value} {dv : Value} {C : String} (A : Arv Z h a kk ty z vs dv) (O : Ovr Z kk C) (I : Ins Z h y C true) : Sto Z h a (.ref y) := by
  obtain ⟨cl, Ar, q, -⟩ := A
  exact Sto.ofV Ar q O I
theorem own_ldcDouble (X : Stand p l e R s m args below meth c T locs cells slots) (hx : p.tables.exec = Jvm.exec) (hZ : Z.Warmed39 s.vm) {own : String} {index : Nat} {v : UInt64} (hown : s.vm.findClass own = some m.cls) (w : (Jvm.Cond.constantDouble own index v).before a0 Z = true) {pc pc' : Nat} {Ls : Array Slot} {rest : List Value} (hd : decode c.code pc = .ok (.ldc2_w index, 3)) (hp : pc + 3 = pc') (h : own_Ends p e below Φ (T.setTop (mkF m pc' Ls (.double v :: rest)))) : own_Ends p e below Φ (T.setTop (mkF m pc Ls rest)) := by
  subst hp; exact own_via (X.ldc2DoubleC hx hown (mvT hZ w) (g := mkF m pc Ls rest) rfl hd) h
theorem own_dcmp (X : Stand p l e R s m args below meth c T locs cells slots) (hx : p.tables.exec = Jvm.exec) {pc pc' : Nat} {Ls : Array Slot} {rest : List Value} {o : CmpOp} {x y : UInt64} (v : Int32) (hd : decode c.code pc = .ok (.dcmp o, 1)) (hv : cmpValue (FP.dcmp x y) o = v) (hp : pc + 1 = pc') (h : own_Ends p e below Φ (T.setTop (mkF m pc' Ls (.int v :: rest)))) : own_Ends p e below Φ (T.setTop (mkF m pc Ls (.double y :: .double x :: rest))) := by
  subst hp; exact own_via (fun _ k => XS.dcmpS X.here hx (g := mkF m pc Ls (.double y :: .double x :: rest)) rfl hd rfl hv k) h
theorem own_dload (X : Stand p l e R s m args below meth c T locs cells slots) (hx : p.tables.exec = Jvm.exec) {pc pc' : Nat} {Ls : Array Slot} {rest : List Value} {k : Nat} {v : UInt64} (hd : decode c.code pc = .ok (.dload k, 2)) (hl : Ls[k]? = some (.val (.double v))) (hp : pc + 2 = pc') (h : own_Ends p e below Φ (T.setTop (mkF m pc' Ls (.double v :: rest)))) : own_Ends p e below Φ (T.setTop (mkF m pc Ls rest)) := by
  subst hp; exact own_via (fun _ k => XS.dload X.here hx (g := mkF m pc Ls rest) rfl hd hl k) h
theorem own_dloadN (X : Stand p l e R s m args below meth c T locs cells slots) (hx : p.tables.exec = Jvm.exec) {pc pc' : Nat} {Ls : Array Slot} {rest : List Value} {k : Fin 4} {v : UInt64} (hd : decode c.code pc = .ok (.dload_n k, 1)) (hl : Ls[k.val]? = some (.val (.double v))) (hp : pc + 1 = pc') (h : own_Ends p e below Φ (T.setTop (mkF m pc' Ls (.double v :: rest)))) : own_Ends p e below Φ (T.setTop (mkF m pc Ls rest)) := by
  subst hp; exact own_via (fun _ k => XS.dloadN X.here hx (g := mkF m pc Ls rest) rfl hd hl k) h
theorem own_dstore (X : Stand p l e R s m args below meth c T locs cells slots) (hx : p.tables.exec = Jvm.exec) {pc pc' : Nat} {Ls : Array Slot} {rest : List Value} {k : Nat} {v : UInt64} (Ls' : Array Slot) (hd : decode c.code pc = .ok (.dstore k, 2)) (hl : storeLocals Ls k (.double v) = some Ls') (hp : pc + 2 = pc') (h : own_Ends p e below Φ (T.setTop (mkF m pc' Ls' rest))) : own_Ends p e below Φ (T.setTop (mkF m pc Ls (.double v :: rest))) := by
  subst hp; exact own_via (fun _ k => XS.dstore X.here hx (g := mkF m pc Ls (.double v :: rest)) rfl hd rfl hl k) h
theorem own_dstoreN (X : Stand p l e R s m args below meth c T locs cells slots) (hx : p.tables.exec = Jvm.exec) {pc pc' : Nat} {Ls : Array Slot} {rest : List Value} {k : Fin 4} {v : UInt64} (Ls' : Array Slot) (hd : decode c.code pc = .ok (.dstore_n k, 1)) (hl : storeLocals Ls k.val (.double v) = some Ls') (hp : pc + 1 = pc') (h : own_Ends p e below Φ (T.setTop (mkF m pc' Ls' rest))) : own_Ends p e below Φ (T.setTop (mkF m pc Ls (.double v :: rest))) := by
  subst hp; exact own_via (fun _ k => XS.dstoreN X.here hx (g := mkF m pc Ls (.double v :: rest)) rfl hd rfl hl k) h
theorem own_ldcLong (X : Stand p l e R s m args below meth c T locs cells slots) (hx : p.tables.exec = Jvm.exec) (hZ : Z.Warmed39 s.vm) {own : String} {index : Nat} {v : Int64} (hown : s.vm.findClass own = some m.cls) (w : (Jvm.Cond.constantLong own index v).before a0 Z = true) {pc pc' : Nat} {Ls : Array Slot} {rest : List Value} (hd : decode c.code pc = .ok (.ldc2_w index, 3)) (hp : pc + 3 = pc') (h : own_Ends p e below Φ (T.setTop (mkF m pc' Ls (.long v :: rest)))) : own_Ends p e below Φ (T.setTop (mkF m pc Ls rest)) := by
  subst hp; exact own_via (X.ldc2Long hx hown (mvT hZ w) (g := mkF m pc Ls rest) rfl hd) h
theorem own_lswHit (X : Stand p l e R s m args below meth c T locs cells slots) (hx : p.tables.exec = Jvm.exec) {pc pc' len : Nat} {Ls : Array Slot} {rest : List Value} {k : Int32} {df : Int} {prs : Array (Int × Int)} {a off : Int} (hd : decode c.code pc = .ok (.lookupswitch df prs, len)) (hs : (prs.toList.zip (prs.toList.drop 1)).all (fun (a, next) => a.1 < next.1) = true) (hf : prs.find? (·.1 == k.toInt) = some (a, off)) (ho : 0 ≤ (pc : Int) + off) (hp : ((pc : Int) + off).toNat = pc') (h : own_Ends p e below Φ (T.setTop (mkF m pc' Ls rest))) : own_Ends p e below Φ (T.setTop (mkF m pc Ls (.int k :: rest))) := by
  subst hp; exact own_via (fun _ q => X.lookupswitchHit hx (g := mkF m pc Ls (.int k :: rest)) rfl rfl hd hs hf ho _ q) h
theorem own_lswMiss (X : Stand p l e R s m args below meth c T locs cells slots) (hx : p.tables.exec = Jvm.exec) {pc pc' len : Nat} {Ls : Array Slot} {rest : List Value} {k : Int32} {df : Int} {prs : Array (Int × Int)} (hd : decode c.code pc = .ok (.lookupswitch df prs, len)) (hs : (prs.toList.zip (prs.toList.drop 1)).all (fun (a, next) => a.1 < next.1) = true) (hf : ∀ z ∈ prs.toList, z.1 ≠ k.toInt) (ho : 0 ≤ (pc : Int) + df) (hp : ((pc : Int) + df).toNat = pc') (h : own_Ends p e below Φ (T.setTop (mkF m pc' Ls rest))) : own_Ends p e below Φ (T.setTop (mkF m pc Ls (.int k :: rest))) := by
  subst hp; exact own_via (fun _ q => X.lookupswitchMiss hx (g := mkF m pc Ls (.int k :: rest)) rfl rfl hd hs (find_miss hf) ho _ q) h
theorem own_neI {t : Int32} (k : Int32) (n : Int) (hk : k.toInt = n) (h : ¬ t = k) : n ≠ t.toInt := fun q => h (Int32.toInt_inj.mp (by rw [hk, q]))
theorem own_refE {P : Value → Prop} {v : Value} (hr : v.isRef = true) (h0 : P .null) (h1 : ∀ a, P (.ref a)) : P v := by cases v <;> first | exact h0 | exact h1 _ | cases hr
theorem own_iteR {c : Prop} [Decidable c] {a b : Value} (ha : a.isRef = true) (hb : b.isRef = true) : (if c then a else b).isRef = true := by by_cases q : c <;> simp [q, ha, hb]
theorem own_fitR {C : String} {v : Value} (hr : v.isRef = true) : fits (.object C) v = true := by cases v <;> first | rfl | cases hr
theorem own_catR {v : Value} (h : v.isRef = true) : v.category = 1 := by cases v <;> first | rfl | cases h
end OwnKitA
section OwnStr
theorem own_c0 {P : Int32 → Prop} : ∀ c ∈ ([] : List Int32), P c := fun _ q => nomatch q
theorem own_c2 {P : Int32 → Prop} {c : Int32} {L : List Int32} (h : P c) (r : ∀ x ∈ L, P x) : ∀ x ∈ c :: L, P x := fun x q => (List.mem_cons.mp q).elim (fun e => e ▸ h) (r x)
theorem own_up {cs : List Int32} (h : ∀ c ∈ cs, ¬ c < 0 ∧ ¬ (255 : Int32) < c) : ∀ c ∈ cs, ¬ c < 0 ∧ ¬ (65535 : Int32) < c := fun c hc => ⟨(h c hc).1, fun q => (h c hc).2 (by rw [Int32.lt_iff_toInt_lt] at q ⊢; have e1 : (65535 : Int32).toInt = 65535 := rfl; have e2 : (255 : Int32).toInt = 255 := rfl; omega)⟩
theorem own_ch (x : Int32) : ¬ (x &&& (255 : Int32)).toUInt32.toUInt16.toUInt32.toInt32 < 0 ∧ ¬ (255 : Int32) < (x &&& (255 : Int32)).toUInt32.toUInt16.toUInt32.toInt32 := by
  rw [i2c_mask]
  have h := c_mask x 255 8 (by decide) (by decide)
  constructor
  · rw [Int32.lt_iff_toInt_lt, h]; have e : (0 : Int32).toInt = 0 := rfl; omega
  · rw [Int32.lt_iff_toInt_lt, h]; have e : (255 : Int32).toInt = 255 := rfl; omega
theorem own_narC {c : Int32} (h : ¬ c < 0 ∧ ¬ (255 : Int32) < c) : nar .char c = c := by
  obtain ⟨h1, h2⟩ := h
  rw [Int32.lt_iff_toInt_lt] at h1 h2
  have e0 : (0 : Int32).toInt = 0 := rfl
  have e1 : (255 : Int32).toInt = 255 := rfl
  have q := c_i2c c
  refine Int32.toInt_inj.mp ?_
  show c.toUInt32.toUInt16.toUInt32.toInt32.toInt = c.toInt
  omega
def own_Str (Z : State) (h : Heap) (a : Addr) (cs : List Int32) : Prop := ∃ (t : Addr) (kb : ClassId) (cd N : Int32) (vs : List Value), Exa Z h a "java/lang/String" ∧ Fld Z h a "java/lang/String" "value" "[B" (.ref t) ∧ Fld Z h a "java/lang/String" "coder" "B" (.int cd) ∧ Arv Z h t kb .byte N vs (.int 0) ∧ StrChars.Road.CodA cs cd N vs ∧ (∀ c ∈ cs, ¬ c < 0 ∧ ¬ (65535 : Int32) < c) ∧ cs.length ≤ 4000
theorem own_Str.ext {Z : State} {h h' : Heap} {a : Addr} {cs : List Int32} (F : own_Str Z h a cs) (E : Ext h h') : own_Str Z h' a cs := by
  obtain ⟨t, kb, cd, N, vs, h1, h2, h3, h4, h5⟩ := F
  exact ⟨t, kb, cd, N, vs, h1.ext E, h2.ext E, h3.ext E, h4.ext E, h5⟩
theorem own_Str.keep0 {Z : State} {h h' : Heap} {a : Addr} {cs : List Int32} (F : own_Str Z h a cs) (K : Keep h h' []) : own_Str Z h' a cs := by
  obtain ⟨t, kb, cd, N, vs, h1, h2, h3, h4, h5⟩ := F
  exact ⟨t, kb, cd, N, vs, h1.keep K, h2.keep K nin0, h3.keep K nin0, h4.keep K nin0, h5⟩
theorem own_safeNull {Z : State} {EL : List (String × Nat)} {vm : Vm} {h : Heap} {x : Addr} (hal : Z.vm.Alike vm) (E : Exa Z h x "java/lang/String") (F : Fld Z h x "java/lang/String" "value" "[B" .null) : Safe Z EL vm h x := fun B => by
  obtain ⟨p, -, u, a, -, q, -, G, rfl | rfl⟩ := B
  · have ha := (show h[q.sa]? = some q.sC from G.ha)
    obtain ⟨cell, cf, k, i, f, h1, h2, -, -, -, -, h7⟩ := F
    cases ha.symm.trans h1
    obtain ⟨cS, ⟨⟨-, -, -, ⟨c1, k1, i1, f1, -⟩, -, -, -, v1, -⟩, -⟩, -⟩ := G
    obtain ⟨k3, e3, -⟩ := State.fieldFound?_setVm (s := Z) hal h2
    have e4 := (show (Wst Z vm h).fieldFound? _ _ _ = _ from e3).symm.trans f1
    simp only [Option.some.injEq, Prod.mk.injEq] at e4
    rw [← e4.2.2.2, h7] at v1
    cases v1
  · obtain ⟨cell, k, e1, e2, e3, -, -⟩ := E
    cases (show h[q.sd]? = some q.SA from G.hd).symm.trans e1
    obtain ⟨cS, -, -, f, -⟩ := G
    have f' : vm.findClass "[B" = some q.SA.cls := f
    rw [hal.findClass] at f'
    obtain ⟨k1, q1, q2⟩ := Vm.findClass_spec f'
    obtain ⟨k2, q3, q4⟩ := Vm.findClass_spec e2
    cases q1.symm.trans q3
    exact absurd (q2.symm.trans q4) (by decide)
end OwnStr
theorem own_pd0 : parseMethodDescriptor "(I)I" = some ⟨[.int], some .int⟩ := by decide +kernel
theorem own_pd1 : parseMethodDescriptor "(I)[B" = some ⟨[.int], some (.array .byte)⟩ := by decide +kernel
theorem own_pd2 : parseMethodDescriptor "([BII)V" = some ⟨[(.array .byte), .int, .int], none⟩ := by decide +kernel
theorem own_pd3 : parseMethodDescriptor "([CI[BII)I" = some ⟨[(.array .char), .int, (.array .byte), .int, .int], some .int⟩ := by decide +kernel
theorem own_pd4 : parseMethodDescriptor "([CII)[B" = some ⟨[(.array .char), .int, .int], some (.array .byte)⟩ := by decide +kernel
theorem own_pd5 : parseMethodDescriptor "([BI)C" = some ⟨[(.array .byte), .int], some .char⟩ := by decide +kernel
theorem own_pd6 : parseMethodDescriptor "([BI)B" = some ⟨[(.array .byte), .int], some .byte⟩ := by decide +kernel
theorem own_pd7 : parseMethodDescriptor "([CIILjava/lang/Void;)V" = some ⟨[(.array .char), .int, .int, (.object "java/lang/Void")], none⟩ := by decide +kernel
theorem own_pd8 : parseMethodDescriptor "([C)V" = some ⟨[(.array .char)], none⟩ := by decide +kernel
theorem own_pd9 : parseMethodDescriptor "(Ljava/lang/Object;)Z" = some ⟨[(.object "java/lang/Object")], some .boolean⟩ := by decide +kernel
theorem own_pd10 : parseMethodDescriptor "(I)C" = some ⟨[.int], some .char⟩ := by decide +kernel
theorem own_pd11 : parseMethodDescriptor "(ICCCCC)Ljava/lang/String;" = some ⟨[.int, .char, .char, .char, .char, .char], some (.object "java/lang/String")⟩ := by decide +kernel
theorem own_pd12 : parseMethodDescriptor "(Ljava/lang/String;)Z" = some ⟨[(.object "java/lang/String")], some .boolean⟩ := by decide +kernel
theorem own_d_jdk_52_method_3_code_0 : decode jdk_52_method_3_code 0 = .ok (.iload_n 0, 1) := by decide +kernel
theorem own_d_jdk_52_method_3_code_1 : decode jdk_52_method_3_code 1 = .ok (.ifCond .ge 11, 3) := by decide +kernel
theorem own_d_jdk_52_method_3_code_12 : decode jdk_52_method_3_code 12 = .ok (.iload_n 0, 1) := by decide +kernel
theorem own_d_jdk_52_method_3_code_13 : decode jdk_52_method_3_code 13 = .ok (.ldc 20, 2) := by decide +kernel
theorem own_d_jdk_52_method_3_code_15 : decode jdk_52_method_3_code 15 = .ok (.if_icmp .lt 40, 3) := by decide +kernel
theorem own_d_jdk_52_method_3_code_55 : decode jdk_52_method_3_code 55 = .ok (.iload_n 0, 1) := by decide +kernel
theorem own_d_jdk_52_method_3_code_56 : decode jdk_52_method_3_code 56 = .ok (.iconst 1, 1) := by decide +kernel
theorem own_d_jdk_52_method_3_code_57 : decode jdk_52_method_3_code 57 = .ok (.ishl, 1) := by decide +kernel
theorem own_d_jdk_52_method_3_code_58 : decode jdk_52_method_3_code 58 = .ok (.ireturn, 1) := by decide +kernel
theorem own_pn_java_lang_StringUTF16 : plainName "java/lang/StringUTF16" = true := by first | (simp [plainName, overriddenIn]; done) | decide +kernel
theorem own_d_jdk_52_method_2_code_0 : decode jdk_52_method_2_code 0 = .ok (.iload_n 0, 1) := by decide +kernel
theorem own_d_jdk_52_method_2_code_1 : decode jdk_52_method_2_code 1 = .ok (.invokestatic 11, 3) := by decide +kernel
theorem own_d_jdk_52_method_2_code_4 : decode jdk_52_method_2_code 4 = .ok (.newarray .byte, 2) := by decide +kernel
theorem own_d_jdk_52_method_2_code_6 : decode jdk_52_method_2_code 6 = .ok (.areturn, 1) := by decide +kernel
theorem own_d_jdk_52_method_4_code_0 : decode jdk_52_method_4_code 0 = .ok (.getstatic 44, 3) := by decide +kernel
theorem own_d_jdk_52_method_4_code_3 : decode jdk_52_method_4_code 3 = .ok (.ifCond .ne 25, 3) := by decide +kernel
theorem own_d_jdk_52_method_4_code_28 : decode jdk_52_method_4_code 28 = .ok (.iload_n 1, 1) := by decide +kernel
theorem own_d_jdk_52_method_4_code_29 : decode jdk_52_method_4_code 29 = .ok (.iconst 1, 1) := by decide +kernel
theorem own_d_jdk_52_method_4_code_30 : decode jdk_52_method_4_code 30 = .ok (.ishl, 1) := by decide +kernel
theorem own_d_jdk_52_method_4_code_31 : decode jdk_52_method_4_code 31 = .ok (.istore_n 1, 1) := by decide +kernel
theorem own_d_jdk_52_method_4_code_32 : decode jdk_52_method_4_code 32 = .ok (.aload_n 0, 1) := by decide +kernel
theorem own_d_jdk_52_method_4_code_33 : decode jdk_52_method_4_code 33 = .ok (.iload_n 1, 1) := by decide +kernel
theorem own_d_jdk_52_method_4_code_34 : decode jdk_52_method_4_code 34 = .ok (.iinc 1 1, 3) := by decide +kernel
theorem own_d_jdk_52_method_4_code_37 : decode jdk_52_method_4_code 37 = .ok (.iload_n 2, 1) := by decide +kernel
theorem own_d_jdk_52_method_4_code_38 : decode jdk_52_method_4_code 38 = .ok (.getstatic 59, 3) := by decide +kernel
theorem own_d_jdk_52_method_4_code_41 : decode jdk_52_method_4_code 41 = .ok (.ishr, 1) := by decide +kernel
theorem own_d_jdk_52_method_4_code_42 : decode jdk_52_method_4_code 42 = .ok (.i2b, 1) := by decide +kernel
theorem own_d_jdk_52_method_4_code_43 : decode jdk_52_method_4_code 43 = .ok (.bastore, 1) := by decide +kernel
theorem own_d_jdk_52_method_4_code_44 : decode jdk_52_method_4_code 44 = .ok (.aload_n 0, 1) := by decide +kernel
theorem own_d_jdk_52_method_4_code_45 : decode jdk_52_method_4_code 45 = .ok (.iload_n 1, 1) := by decide +kernel
theorem own_d_jdk_52_method_4_code_46 : decode jdk_52_method_4_code 46 = .ok (.iload_n 2, 1) := by decide +kernel
theorem own_d_jdk_52_method_4_code_47 : decode jdk_52_method_4_code 47 = .ok (.getstatic 63, 3) := by decide +kernel
theorem own_d_jdk_52_method_4_code_50 : decode jdk_52_method_4_code 50 = .ok (.ishr, 1) := by decide +kernel
theorem own_d_jdk_52_method_4_code_51 : decode jdk_52_method_4_code 51 = .ok (.i2b, 1) := by decide +kernel
theorem own_d_jdk_52_method_4_code_52 : decode jdk_52_method_4_code 52 = .ok (.bastore, 1) := by decide +kernel
theorem own_d_jdk_52_method_4_code_53 : decode jdk_52_method_4_code 53 = .ok (.return_, 1) := by decide +kernel
theorem own_d_jdk_52_method_5_code_0 : decode jdk_52_method_5_code 0 = .ok (.getstatic 44, 3) := by decide +kernel
theorem own_d_jdk_52_method_5_code_3 : decode jdk_52_method_5_code 3 = .ok (.ifCond .ne 25, 3) := by decide +kernel
theorem own_d_jdk_52_method_5_code_28 : decode jdk_52_method_5_code 28 = .ok (.iload_n 1, 1) := by decide +kernel
theorem own_d_jdk_52_method_5_code_29 : decode jdk_52_method_5_code 29 = .ok (.iconst 1, 1) := by decide +kernel
theorem own_d_jdk_52_method_5_code_30 : decode jdk_52_method_5_code 30 = .ok (.ishl, 1) := by decide +kernel
theorem own_d_jdk_52_method_5_code_31 : decode jdk_52_method_5_code 31 = .ok (.istore_n 1, 1) := by decide +kernel
theorem own_d_jdk_52_method_5_code_32 : decode jdk_52_method_5_code 32 = .ok (.aload_n 0, 1) := by decide +kernel
theorem own_d_jdk_52_method_5_code_33 : decode jdk_52_method_5_code 33 = .ok (.iload_n 1, 1) := by decide +kernel
theorem own_d_jdk_52_method_5_code_34 : decode jdk_52_method_5_code 34 = .ok (.iinc 1 1, 3) := by decide +kernel
theorem own_d_jdk_52_method_5_code_37 : decode jdk_52_method_5_code 37 = .ok (.baload, 1) := by decide +kernel
theorem own_d_jdk_52_method_5_code_38 : decode jdk_52_method_5_code 38 = .ok (.sipush 255, 3) := by decide +kernel
theorem own_d_jdk_52_method_5_code_41 : decode jdk_52_method_5_code 41 = .ok (.iand, 1) := by decide +kernel
theorem own_d_jdk_52_method_5_code_42 : decode jdk_52_method_5_code 42 = .ok (.getstatic 59, 3) := by decide +kernel
theorem own_d_jdk_52_method_5_code_45 : decode jdk_52_method_5_code 45 = .ok (.ishl, 1) := by decide +kernel
theorem own_d_jdk_52_method_5_code_46 : decode jdk_52_method_5_code 46 = .ok (.aload_n 0, 1) := by decide +kernel
theorem own_d_jdk_52_method_5_code_47 : decode jdk_52_method_5_code 47 = .ok (.iload_n 1, 1) := by decide +kernel
theorem own_d_jdk_52_method_5_code_48 : decode jdk_52_method_5_code 48 = .ok (.baload, 1) := by decide +kernel
theorem own_d_jdk_52_method_5_code_49 : decode jdk_52_method_5_code 49 = .ok (.sipush 255, 3) := by decide +kernel
theorem own_d_jdk_52_method_5_code_52 : decode jdk_52_method_5_code 52 = .ok (.iand, 1) := by decide +kernel
theorem own_d_jdk_52_method_5_code_53 : decode jdk_52_method_5_code 53 = .ok (.getstatic 63, 3) := by decide +kernel
theorem own_d_jdk_52_method_5_code_56 : decode jdk_52_method_5_code 56 = .ok (.ishl, 1) := by decide +kernel
theorem own_d_jdk_52_method_5_code_57 : decode jdk_52_method_5_code 57 = .ok (.ior, 1) := by decide +kernel
theorem own_d_jdk_52_method_5_code_58 : decode jdk_52_method_5_code 58 = .ok (.i2c, 1) := by decide +kernel
theorem own_d_jdk_52_method_5_code_59 : decode jdk_52_method_5_code 59 = .ok (.ireturn, 1) := by decide +kernel
theorem own_d_jdk_52_method_14_code_0 : decode jdk_52_method_14_code 0 = .ok (.iload_n 2, 1) := by decide +kernel
theorem own_d_jdk_52_method_14_code_1 : decode jdk_52_method_14_code 1 = .ok (.invokestatic 107, 3) := by decide +kernel
theorem own_d_jdk_52_method_14_code_4 : decode jdk_52_method_14_code 4 = .ok (.astore_n 3, 1) := by decide +kernel
theorem own_d_jdk_52_method_14_code_5 : decode jdk_52_method_14_code 5 = .ok (.iconst 0, 1) := by decide +kernel
theorem own_d_jdk_52_method_14_code_6 : decode jdk_52_method_14_code 6 = .ok (.istore 4, 2) := by decide +kernel
theorem own_d_jdk_52_method_14_code_8 : decode jdk_52_method_14_code 8 = .ok (.iload 4, 2) := by decide +kernel
theorem own_d_jdk_52_method_14_code_10 : decode jdk_52_method_14_code 10 = .ok (.iload_n 2, 1) := by decide +kernel
theorem own_d_jdk_52_method_14_code_11 : decode jdk_52_method_14_code 11 = .ok (.if_icmp .ge 21, 3) := by decide +kernel
theorem own_d_jdk_52_method_14_code_14 : decode jdk_52_method_14_code 14 = .ok (.aload_n 3, 1) := by decide +kernel
theorem own_d_jdk_52_method_14_code_15 : decode jdk_52_method_14_code 15 = .ok (.iload 4, 2) := by decide +kernel
theorem own_d_jdk_52_method_14_code_17 : decode jdk_52_method_14_code 17 = .ok (.aload_n 0, 1) := by decide +kernel
theorem own_d_jdk_52_method_14_code_18 : decode jdk_52_method_14_code 18 = .ok (.iload_n 1, 1) := by decide +kernel
theorem own_d_jdk_52_method_14_code_19 : decode jdk_52_method_14_code 19 = .ok (.caload, 1) := by decide +kernel
theorem own_d_jdk_52_method_14_code_20 : decode jdk_52_method_14_code 20 = .ok (.invokestatic 111, 3) := by decide +kernel
theorem own_d_jdk_52_method_14_code_23 : decode jdk_52_method_14_code 23 = .ok (.iinc 1 1, 3) := by decide +kernel
theorem own_d_jdk_52_method_14_code_26 : decode jdk_52_method_14_code 26 = .ok (.iinc 4 1, 3) := by decide +kernel
theorem own_d_jdk_52_method_14_code_29 : decode jdk_52_method_14_code 29 = .ok (.goto (-21), 3) := by decide +kernel
theorem own_d_jdk_52_method_14_code_32 : decode jdk_52_method_14_code 32 = .ok (.aload_n 3, 1) := by decide +kernel
theorem own_d_jdk_52_method_14_code_33 : decode jdk_52_method_14_code 33 = .ok (.areturn, 1) := by decide +kernel
theorem own_d_jdk_52_method_21_code_0 : decode jdk_52_method_21_code 0 = .ok (.iconst 0, 1) := by decide +kernel
theorem own_d_jdk_52_method_21_code_1 : decode jdk_52_method_21_code 1 = .ok (.istore 5, 2) := by decide +kernel
theorem own_d_jdk_52_method_21_code_3 : decode jdk_52_method_21_code 3 = .ok (.iload 5, 2) := by decide +kernel
theorem own_d_jdk_52_method_21_code_5 : decode jdk_52_method_21_code 5 = .ok (.iload 4, 2) := by decide +kernel
theorem own_d_jdk_52_method_21_code_7 : decode jdk_52_method_21_code 7 = .ok (.if_icmp .ge 37, 3) := by decide +kernel
theorem own_d_jdk_52_method_21_code_10 : decode jdk_52_method_21_code 10 = .ok (.aload_n 0, 1) := by decide +kernel
theorem own_d_jdk_52_method_21_code_11 : decode jdk_52_method_21_code 11 = .ok (.iload_n 1, 1) := by decide +kernel
theorem own_d_jdk_52_method_21_code_12 : decode jdk_52_method_21_code 12 = .ok (.caload, 1) := by decide +kernel
theorem own_d_jdk_52_method_21_code_13 : decode jdk_52_method_21_code 13 = .ok (.istore 6, 2) := by decide +kernel
theorem own_d_jdk_52_method_21_code_15 : decode jdk_52_method_21_code 15 = .ok (.iload 6, 2) := by decide +kernel
theorem own_d_jdk_52_method_21_code_17 : decode jdk_52_method_21_code 17 = .ok (.sipush 255, 3) := by decide +kernel
theorem own_d_jdk_52_method_21_code_20 : decode jdk_52_method_21_code 20 = .ok (.if_icmp .le 6, 3) := by decide +kernel
theorem own_d_jdk_52_method_21_code_26 : decode jdk_52_method_21_code 26 = .ok (.aload_n 2, 1) := by decide +kernel
theorem own_d_jdk_52_method_21_code_27 : decode jdk_52_method_21_code 27 = .ok (.iload_n 3, 1) := by decide +kernel
theorem own_d_jdk_52_method_21_code_28 : decode jdk_52_method_21_code 28 = .ok (.iload 6, 2) := by decide +kernel
theorem own_d_jdk_52_method_21_code_30 : decode jdk_52_method_21_code 30 = .ok (.i2b, 1) := by decide +kernel
theorem own_d_jdk_52_method_21_code_31 : decode jdk_52_method_21_code 31 = .ok (.bastore, 1) := by decide +kernel
theorem own_d_jdk_52_method_21_code_32 : decode jdk_52_method_21_code 32 = .ok (.iinc 1 1, 3) := by decide +kernel
theorem own_d_jdk_52_method_21_code_35 : decode jdk_52_method_21_code 35 = .ok (.iinc 3 1, 3) := by decide +kernel
theorem own_d_jdk_52_method_21_code_38 : decode jdk_52_method_21_code 38 = .ok (.iinc 5 1, 3) := by decide +kernel
theorem own_d_jdk_52_method_21_code_41 : decode jdk_52_method_21_code 41 = .ok (.goto (-38), 3) := by decide +kernel
theorem own_d_jdk_52_method_21_code_44 : decode jdk_52_method_21_code 44 = .ok (.iload 4, 2) := by decide +kernel
theorem own_d_jdk_52_method_21_code_46 : decode jdk_52_method_21_code 46 = .ok (.ireturn, 1) := by decide +kernel
theorem own_d_jdk_52_method_21_code_23 : decode jdk_52_method_21_code 23 = .ok (.iload 5, 2) := by decide +kernel
theorem own_d_jdk_52_method_21_code_25 : decode jdk_52_method_21_code 25 = .ok (.ireturn, 1) := by decide +kernel
theorem own_d_jdk_52_method_16_code_0 : decode jdk_52_method_16_code 0 = .ok (.iload_n 2, 1) := by decide +kernel
theorem own_d_jdk_52_method_16_code_1 : decode jdk_52_method_16_code 1 = .ok (.newarray .byte, 2) := by decide +kernel
theorem own_d_jdk_52_method_16_code_3 : decode jdk_52_method_16_code 3 = .ok (.astore_n 3, 1) := by decide +kernel
theorem own_d_jdk_52_method_16_code_4 : decode jdk_52_method_16_code 4 = .ok (.aload_n 0, 1) := by decide +kernel
theorem own_d_jdk_52_method_16_code_5 : decode jdk_52_method_16_code 5 = .ok (.iload_n 1, 1) := by decide +kernel
theorem own_d_jdk_52_method_16_code_6 : decode jdk_52_method_16_code 6 = .ok (.aload_n 3, 1) := by decide +kernel
theorem own_d_jdk_52_method_16_code_7 : decode jdk_52_method_16_code 7 = .ok (.iconst 0, 1) := by decide +kernel
theorem own_d_jdk_52_method_16_code_8 : decode jdk_52_method_16_code 8 = .ok (.iload_n 2, 1) := by decide +kernel
theorem own_d_jdk_52_method_16_code_9 : decode jdk_52_method_16_code 9 = .ok (.invokestatic 115, 3) := by decide +kernel
theorem own_d_jdk_52_method_16_code_12 : decode jdk_52_method_16_code 12 = .ok (.istore 4, 2) := by decide +kernel
theorem own_d_jdk_52_method_16_code_14 : decode jdk_52_method_16_code 14 = .ok (.iload 4, 2) := by decide +kernel
theorem own_d_jdk_52_method_16_code_16 : decode jdk_52_method_16_code 16 = .ok (.iload_n 2, 1) := by decide +kernel
theorem own_d_jdk_52_method_16_code_17 : decode jdk_52_method_16_code 17 = .ok (.if_icmp .eq 40, 3) := by decide +kernel
theorem own_d_jdk_52_method_16_code_20 : decode jdk_52_method_16_code 20 = .ok (.aload_n 0, 1) := by decide +kernel
theorem own_d_jdk_52_method_16_code_21 : decode jdk_52_method_16_code 21 = .ok (.iload_n 1, 1) := by decide +kernel
theorem own_d_jdk_52_method_16_code_22 : decode jdk_52_method_16_code 22 = .ok (.iload_n 2, 1) := by decide +kernel
theorem own_d_jdk_52_method_16_code_23 : decode jdk_52_method_16_code 23 = .ok (.invokestatic 119, 3) := by decide +kernel
theorem own_d_jdk_52_method_16_code_26 : decode jdk_52_method_16_code 26 = .ok (.astore 5, 2) := by decide +kernel
theorem own_d_jdk_52_method_16_code_28 : decode jdk_52_method_16_code 28 = .ok (.aload 5, 2) := by decide +kernel
theorem own_d_jdk_52_method_16_code_30 : decode jdk_52_method_16_code 30 = .ok (.iload 4, 2) := by decide +kernel
theorem own_d_jdk_52_method_16_code_32 : decode jdk_52_method_16_code 32 = .ok (.invokestatic 71, 3) := by decide +kernel
theorem own_d_jdk_52_method_16_code_35 : decode jdk_52_method_16_code 35 = .ok (.sipush 255, 3) := by decide +kernel
theorem own_d_jdk_52_method_16_code_38 : decode jdk_52_method_16_code 38 = .ok (.if_icmp .gt 16, 3) := by decide +kernel
theorem own_d_jdk_52_method_16_code_54 : decode jdk_52_method_16_code 54 = .ok (.aload 5, 2) := by decide +kernel
theorem own_d_jdk_52_method_16_code_56 : decode jdk_52_method_16_code 56 = .ok (.areturn, 1) := by decide +kernel
theorem own_d_jdk_52_method_15_code_0 : decode jdk_52_method_15_code 0 = .ok (.iload_n 1, 1) := by decide +kernel
theorem own_d_jdk_52_method_15_code_1 : decode jdk_52_method_15_code 1 = .ok (.aload_n 0, 1) := by decide +kernel
theorem own_d_jdk_52_method_15_code_2 : decode jdk_52_method_15_code 2 = .ok (.arraylength, 1) := by decide +kernel
theorem own_d_jdk_52_method_15_code_3 : decode jdk_52_method_15_code 3 = .ok (.isub, 1) := by decide +kernel
theorem own_d_jdk_52_method_15_code_4 : decode jdk_52_method_15_code 4 = .ok (.bipush 31, 2) := by decide +kernel
theorem own_d_jdk_52_method_15_code_6 : decode jdk_52_method_15_code 6 = .ok (.iushr, 1) := by decide +kernel
theorem own_d_jdk_52_method_15_code_7 : decode jdk_52_method_15_code 7 = .ok (.i2b, 1) := by decide +kernel
theorem own_d_jdk_52_method_15_code_8 : decode jdk_52_method_15_code 8 = .ok (.ireturn, 1) := by decide +kernel
theorem own_d_jdk_42_method_149_code_0 : decode jdk_42_method_149_code 0 = .ok (.aload_n 0, 1) := by decide +kernel
theorem own_d_jdk_42_method_149_code_1 : decode jdk_42_method_149_code 1 = .ok (.invokespecial 1, 3) := by decide +kernel
theorem own_d_jdk_42_method_149_code_4 : decode jdk_42_method_149_code 4 = .ok (.iload_n 3, 1) := by decide +kernel
theorem own_d_jdk_42_method_149_code_5 : decode jdk_42_method_149_code 5 = .ok (.ifCond .ne 22, 3) := by decide +kernel
theorem own_d_jdk_42_method_149_code_27 : decode jdk_42_method_149_code 27 = .ok (.getstatic 38, 3) := by decide +kernel
theorem own_d_jdk_42_method_149_code_30 : decode jdk_42_method_149_code 30 = .ok (.ifCond .eq 28, 3) := by decide +kernel
theorem own_d_jdk_42_method_149_code_33 : decode jdk_42_method_149_code 33 = .ok (.aload_n 1, 1) := by decide +kernel
theorem own_d_jdk_42_method_149_code_34 : decode jdk_42_method_149_code 34 = .ok (.iload_n 2, 1) := by decide +kernel
theorem own_d_jdk_42_method_149_code_35 : decode jdk_42_method_149_code 35 = .ok (.iload_n 3, 1) := by decide +kernel
theorem own_d_jdk_42_method_149_code_36 : decode jdk_42_method_149_code 36 = .ok (.invokestatic 177, 3) := by decide +kernel
theorem own_d_jdk_42_method_149_code_39 : decode jdk_42_method_149_code 39 = .ok (.astore 5, 2) := by decide +kernel
theorem own_d_jdk_42_method_149_code_41 : decode jdk_42_method_149_code 41 = .ok (.aload_n 0, 1) := by decide +kernel
theorem own_d_jdk_42_method_149_code_42 : decode jdk_42_method_149_code 42 = .ok (.aload 5, 2) := by decide +kernel
theorem own_d_jdk_42_method_149_code_44 : decode jdk_42_method_149_code 44 = .ok (.iload_n 3, 1) := by decide +kernel
theorem own_d_jdk_42_method_149_code_45 : decode jdk_42_method_149_code 45 = .ok (.invokestatic 47, 3) := by decide +kernel
theorem own_d_jdk_42_method_149_code_48 : decode jdk_42_method_149_code 48 = .ok (.putfield 15, 3) := by decide +kernel
theorem own_d_jdk_42_method_149_code_51 : decode jdk_42_method_149_code 51 = .ok (.aload_n 0, 1) := by decide +kernel
theorem own_d_jdk_42_method_149_code_52 : decode jdk_42_method_149_code 52 = .ok (.aload 5, 2) := by decide +kernel
theorem own_d_jdk_42_method_149_code_54 : decode jdk_42_method_149_code 54 = .ok (.putfield 9, 3) := by decide +kernel
theorem own_d_jdk_42_method_149_code_57 : decode jdk_42_method_149_code 57 = .ok (.return_, 1) := by decide +kernel
theorem own_pn_java_lang_String : plainName "java/lang/String" = true := by first | (simp [plainName, overriddenIn]; done) | decide +kernel
theorem own_d_jdk_42_method_3_code_0 : decode jdk_42_method_3_code 0 = .ok (.aload_n 0, 1) := by decide +kernel
theorem own_d_jdk_42_method_3_code_1 : decode jdk_42_method_3_code 1 = .ok (.aload_n 1, 1) := by decide +kernel
theorem own_d_jdk_42_method_3_code_2 : decode jdk_42_method_3_code 2 = .ok (.iconst 0, 1) := by decide +kernel
theorem own_d_jdk_42_method_3_code_3 : decode jdk_42_method_3_code 3 = .ok (.aload_n 1, 1) := by decide +kernel
theorem own_d_jdk_42_method_3_code_4 : decode jdk_42_method_3_code 4 = .ok (.arraylength, 1) := by decide +kernel
theorem own_d_jdk_42_method_3_code_5 : decode jdk_42_method_3_code 5 = .ok (.aconst_null, 1) := by decide +kernel
theorem own_d_jdk_42_method_3_code_6 : decode jdk_42_method_3_code 6 = .ok (.invokespecial 27, 3) := by decide +kernel
theorem own_d_jdk_42_method_3_code_9 : decode jdk_42_method_3_code 9 = .ok (.return_, 1) := by decide +kernel
theorem own_d_jdk_42_method_149_code_8 : decode jdk_42_method_149_code 8 = .ok (.aload_n 0, 1) := by decide +kernel
theorem own_d_jdk_42_method_149_code_9 : decode jdk_42_method_149_code 9 = .ok (.ldc 7, 2) := by decide +kernel
theorem own_d_jdk_42_method_149_code_11 : decode jdk_42_method_149_code 11 = .ok (.getfield 9, 3) := by decide +kernel
theorem own_d_jdk_42_method_149_code_14 : decode jdk_42_method_149_code 14 = .ok (.putfield 9, 3) := by decide +kernel
theorem own_d_jdk_42_method_149_code_17 : decode jdk_42_method_149_code 17 = .ok (.aload_n 0, 1) := by decide +kernel
theorem own_d_jdk_42_method_149_code_18 : decode jdk_42_method_149_code 18 = .ok (.ldc 7, 2) := by decide +kernel
theorem own_d_jdk_42_method_149_code_20 : decode jdk_42_method_149_code 20 = .ok (.getfield 15, 3) := by decide +kernel
theorem own_d_jdk_42_method_149_code_23 : decode jdk_42_method_149_code 23 = .ok (.putfield 15, 3) := by decide +kernel
theorem own_d_jdk_42_method_149_code_26 : decode jdk_42_method_149_code 26 = .ok (.return_, 1) := by decide +kernel
theorem own_d_method_2_code_0 : decode method_2_code 0 = .ok (.iload_n 0, 1) := by decide +kernel
theorem own_d_method_2_code_1 : decode method_2_code 1 = .ok (.ldc 7, 2) := by decide +kernel
theorem own_d_method_2_code_3 : decode method_2_code 3 = .ok (.iand, 1) := by decide +kernel
theorem own_d_method_2_code_4 : decode method_2_code 4 = .ok (.ifCond .eq 60, 3) := by decide +kernel
theorem own_d_method_2_code_64 : decode method_2_code 64 = .ok (.iload_n 0, 1) := by decide +kernel
theorem own_d_method_2_code_65 : decode method_2_code 65 = .ok (.ldc 8, 2) := by decide +kernel
theorem own_d_method_2_code_67 : decode method_2_code 67 = .ok (.iand, 1) := by decide +kernel
theorem own_d_method_2_code_68 : decode method_2_code 68 = .ok (.i2c, 1) := by decide +kernel
theorem own_d_method_2_code_69 : decode method_2_code 69 = .ok (.ireturn, 1) := by decide +kernel
theorem own_d_method_2_code_7 : decode method_2_code 7 = .ok (.bipush 8, 2) := by decide +kernel
theorem own_d_method_2_code_9 : decode method_2_code 9 = .ok (.newarray .char, 2) := by decide +kernel
theorem own_d_method_2_code_11 : decode method_2_code 11 = .ok (.dup, 1) := by decide +kernel
theorem own_d_method_2_code_12 : decode method_2_code 12 = .ok (.iconst 0, 1) := by decide +kernel
theorem own_d_method_2_code_13 : decode method_2_code 13 = .ok (.bipush 73, 2) := by decide +kernel
theorem own_d_method_2_code_15 : decode method_2_code 15 = .ok (.castore, 1) := by decide +kernel
theorem own_d_method_2_code_16 : decode method_2_code 16 = .ok (.dup, 1) := by decide +kernel
theorem own_d_method_2_code_17 : decode method_2_code 17 = .ok (.iconst 1, 1) := by decide +kernel
theorem own_d_method_2_code_18 : decode method_2_code 18 = .ok (.bipush 78, 2) := by decide +kernel
theorem own_d_method_2_code_20 : decode method_2_code 20 = .ok (.castore, 1) := by decide +kernel
theorem own_d_method_2_code_21 : decode method_2_code 21 = .ok (.dup, 1) := by decide +kernel
theorem own_d_method_2_code_22 : decode method_2_code 22 = .ok (.iconst 2, 1) := by decide +kernel
theorem own_d_method_2_code_23 : decode method_2_code 23 = .ok (.bipush 70, 2) := by decide +kernel
theorem own_d_method_2_code_25 : decode method_2_code 25 = .ok (.castore, 1) := by decide +kernel
theorem own_d_method_2_code_26 : decode method_2_code 26 = .ok (.dup, 1) := by decide +kernel
theorem own_d_method_2_code_27 : decode method_2_code 27 = .ok (.iconst 3, 1) := by decide +kernel
theorem own_d_method_2_code_28 : decode method_2_code 28 = .ok (.bipush 45, 2) := by decide +kernel
theorem own_d_method_2_code_30 : decode method_2_code 30 = .ok (.castore, 1) := by decide +kernel
theorem own_d_method_2_code_31 : decode method_2_code 31 = .ok (.dup, 1) := by decide +kernel
theorem own_d_method_2_code_32 : decode method_2_code 32 = .ok (.iconst 4, 1) := by decide +kernel
theorem own_d_method_2_code_33 : decode method_2_code 33 = .ok (.bipush 97, 2) := by decide +kernel
theorem own_d_method_2_code_35 : decode method_2_code 35 = .ok (.castore, 1) := by decide +kernel
theorem own_d_method_2_code_36 : decode method_2_code 36 = .ok (.dup, 1) := by decide +kernel
theorem own_d_method_2_code_37 : decode method_2_code 37 = .ok (.iconst 5, 1) := by decide +kernel
theorem own_d_method_2_code_38 : decode method_2_code 38 = .ok (.bipush 110, 2) := by decide +kernel
theorem own_d_method_2_code_40 : decode method_2_code 40 = .ok (.castore, 1) := by decide +kernel
theorem own_d_method_2_code_41 : decode method_2_code 41 = .ok (.dup, 1) := by decide +kernel
theorem own_d_method_2_code_42 : decode method_2_code 42 = .ok (.bipush 6, 2) := by decide +kernel
theorem own_d_method_2_code_44 : decode method_2_code 44 = .ok (.bipush 105, 2) := by decide +kernel
theorem own_d_method_2_code_46 : decode method_2_code 46 = .ok (.castore, 1) := by decide +kernel
theorem own_d_method_2_code_47 : decode method_2_code 47 = .ok (.dup, 1) := by decide +kernel
theorem own_d_method_2_code_48 : decode method_2_code 48 = .ok (.bipush 7, 2) := by decide +kernel
theorem own_d_method_2_code_50 : decode method_2_code 50 = .ok (.bipush 102, 2) := by decide +kernel
theorem own_d_method_2_code_52 : decode method_2_code 52 = .ok (.castore, 1) := by decide +kernel
theorem own_d_method_2_code_53 : decode method_2_code 53 = .ok (.astore_n 1, 1) := by decide +kernel
theorem own_d_method_2_code_54 : decode method_2_code 54 = .ok (.aload_n 1, 1) := by decide +kernel
theorem own_d_method_2_code_55 : decode method_2_code 55 = .ok (.iload_n 0, 1) := by decide +kernel
theorem own_d_method_2_code_56 : decode method_2_code 56 = .ok (.bipush 21, 2) := by decide +kernel
theorem own_d_method_2_code_58 : decode method_2_code 58 = .ok (.iushr, 1) := by decide +kernel
theorem own_d_method_2_code_59 : decode method_2_code 59 = .ok (.bipush 7, 2) := by decide +kernel
theorem own_d_method_2_code_61 : decode method_2_code 61 = .ok (.iand, 1) := by decide +kernel
theorem own_d_method_2_code_62 : decode method_2_code 62 = .ok (.caload, 1) := by decide +kernel
theorem own_d_method_2_code_63 : decode method_2_code 63 = .ok (.ireturn, 1) := by decide +kernel
theorem own_pn_com_example_pincio_pincio_core_CanonicalLiteralsIsSpecialPinLaw : plainName "com/example/pincio/pincio/core/CanonicalLiteralsIsSpecialPinLaw" = true := by first | (simp [plainName, overriddenIn]; done) | decide +kernel
theorem own_d_method_3_code_0 : decode method_3_code 0 = .ok (.iload_n 0, 1) := by decide +kernel
theorem own_d_method_3_code_1 : decode method_3_code 1 = .ok (.ifCond .ne 14, 3) := by decide +kernel
theorem own_d_method_3_code_15 : decode method_3_code 15 = .ok (.iload_n 0, 1) := by decide +kernel
theorem own_d_method_3_code_16 : decode method_3_code 16 = .ok (.iconst 1, 1) := by decide +kernel
theorem own_d_method_3_code_17 : decode method_3_code 17 = .ok (.if_icmp .ne 18, 3) := by decide +kernel
theorem own_d_method_3_code_35 : decode method_3_code 35 = .ok (.iload_n 0, 1) := by decide +kernel
theorem own_d_method_3_code_36 : decode method_3_code 36 = .ok (.iconst 2, 1) := by decide +kernel
theorem own_d_method_3_code_37 : decode method_3_code 37 = .ok (.if_icmp .ne 22, 3) := by decide +kernel
theorem own_d_method_3_code_59 : decode method_3_code 59 = .ok (.iload_n 0, 1) := by decide +kernel
theorem own_d_method_3_code_60 : decode method_3_code 60 = .ok (.iconst 3, 1) := by decide +kernel
theorem own_d_method_3_code_61 : decode method_3_code 61 = .ok (.if_icmp .ne 26, 3) := by decide +kernel
theorem own_d_method_3_code_87 : decode method_3_code 87 = .ok (.iload_n 0, 1) := by decide +kernel
theorem own_d_method_3_code_88 : decode method_3_code 88 = .ok (.iconst 4, 1) := by decide +kernel
theorem own_d_method_3_code_89 : decode method_3_code 89 = .ok (.if_icmp .ne 31, 3) := by decide +kernel
theorem own_d_method_3_code_120 : decode method_3_code 120 = .ok (.new 9, 3) := by decide +kernel
theorem own_d_method_3_code_123 : decode method_3_code 123 = .ok (.dup, 1) := by decide +kernel
theorem own_d_method_3_code_124 : decode method_3_code 124 = .ok (.iconst 5, 1) := by decide +kernel
theorem own_d_method_3_code_125 : decode method_3_code 125 = .ok (.newarray .char, 2) := by decide +kernel
theorem own_d_method_3_code_127 : decode method_3_code 127 = .ok (.dup, 1) := by decide +kernel
theorem own_d_method_3_code_128 : decode method_3_code 128 = .ok (.iconst 0, 1) := by decide +kernel
theorem own_d_method_3_code_129 : decode method_3_code 129 = .ok (.iload_n 1, 1) := by decide +kernel
theorem own_d_method_3_code_130 : decode method_3_code 130 = .ok (.castore, 1) := by decide +kernel
theorem own_d_method_3_code_131 : decode method_3_code 131 = .ok (.dup, 1) := by decide +kernel
theorem own_d_method_3_code_132 : decode method_3_code 132 = .ok (.iconst 1, 1) := by decide +kernel
theorem own_d_method_3_code_133 : decode method_3_code 133 = .ok (.iload_n 2, 1) := by decide +kernel
theorem own_d_method_3_code_134 : decode method_3_code 134 = .ok (.castore, 1) := by decide +kernel
theorem own_d_method_3_code_135 : decode method_3_code 135 = .ok (.dup, 1) := by decide +kernel
theorem own_d_method_3_code_136 : decode method_3_code 136 = .ok (.iconst 2, 1) := by decide +kernel
theorem own_d_method_3_code_137 : decode method_3_code 137 = .ok (.iload_n 3, 1) := by decide +kernel
theorem own_d_method_3_code_138 : decode method_3_code 138 = .ok (.castore, 1) := by decide +kernel
theorem own_d_method_3_code_139 : decode method_3_code 139 = .ok (.dup, 1) := by decide +kernel
theorem own_d_method_3_code_140 : decode method_3_code 140 = .ok (.iconst 3, 1) := by decide +kernel
theorem own_d_method_3_code_141 : decode method_3_code 141 = .ok (.iload 4, 2) := by decide +kernel
theorem own_d_method_3_code_143 : decode method_3_code 143 = .ok (.castore, 1) := by decide +kernel
theorem own_d_method_3_code_144 : decode method_3_code 144 = .ok (.dup, 1) := by decide +kernel
theorem own_d_method_3_code_145 : decode method_3_code 145 = .ok (.iconst 4, 1) := by decide +kernel
theorem own_d_method_3_code_146 : decode method_3_code 146 = .ok (.iload 5, 2) := by decide +kernel
theorem own_d_method_3_code_148 : decode method_3_code 148 = .ok (.castore, 1) := by decide +kernel
theorem own_d_method_3_code_149 : decode method_3_code 149 = .ok (.invokespecial 11, 3) := by decide +kernel
theorem own_d_method_3_code_152 : decode method_3_code 152 = .ok (.areturn, 1) := by decide +kernel
theorem own_d_method_3_code_92 : decode method_3_code 92 = .ok (.new 9, 3) := by decide +kernel
theorem own_d_method_3_code_95 : decode method_3_code 95 = .ok (.dup, 1) := by decide +kernel
theorem own_d_method_3_code_96 : decode method_3_code 96 = .ok (.iconst 4, 1) := by decide +kernel
theorem own_d_method_3_code_97 : decode method_3_code 97 = .ok (.newarray .char, 2) := by decide +kernel
theorem own_d_method_3_code_99 : decode method_3_code 99 = .ok (.dup, 1) := by decide +kernel
theorem own_d_method_3_code_100 : decode method_3_code 100 = .ok (.iconst 0, 1) := by decide +kernel
theorem own_d_method_3_code_101 : decode method_3_code 101 = .ok (.iload_n 1, 1) := by decide +kernel
theorem own_d_method_3_code_102 : decode method_3_code 102 = .ok (.castore, 1) := by decide +kernel
theorem own_d_method_3_code_103 : decode method_3_code 103 = .ok (.dup, 1) := by decide +kernel
theorem own_d_method_3_code_104 : decode method_3_code 104 = .ok (.iconst 1, 1) := by decide +kernel
theorem own_d_method_3_code_105 : decode method_3_code 105 = .ok (.iload_n 2, 1) := by decide +kernel
theorem own_d_method_3_code_106 : decode method_3_code 106 = .ok (.castore, 1) := by decide +kernel
theorem own_d_method_3_code_107 : decode method_3_code 107 = .ok (.dup, 1) := by decide +kernel
theorem own_d_method_3_code_108 : decode method_3_code 108 = .ok (.iconst 2, 1) := by decide +kernel
theorem own_d_method_3_code_109 : decode method_3_code 109 = .ok (.iload_n 3, 1) := by decide +kernel
theorem own_d_method_3_code_110 : decode method_3_code 110 = .ok (.castore, 1) := by decide +kernel
theorem own_d_method_3_code_111 : decode method_3_code 111 = .ok (.dup, 1) := by decide +kernel
theorem own_d_method_3_code_112 : decode method_3_code 112 = .ok (.iconst 3, 1) := by decide +kernel
theorem own_d_method_3_code_113 : decode method_3_code 113 = .ok (.iload 4, 2) := by decide +kernel
theorem own_d_method_3_code_115 : decode method_3_code 115 = .ok (.castore, 1) := by decide +kernel
theorem own_d_method_3_code_116 : decode method_3_code 116 = .ok (.invokespecial 11, 3) := by decide +kernel
theorem own_d_method_3_code_119 : decode method_3_code 119 = .ok (.areturn, 1) := by decide +kernel
theorem own_d_method_3_code_64 : decode method_3_code 64 = .ok (.new 9, 3) := by decide +kernel
theorem own_d_method_3_code_67 : decode method_3_code 67 = .ok (.dup, 1) := by decide +kernel
theorem own_d_method_3_code_68 : decode method_3_code 68 = .ok (.iconst 3, 1) := by decide +kernel
theorem own_d_method_3_code_69 : decode method_3_code 69 = .ok (.newarray .char, 2) := by decide +kernel
theorem own_d_method_3_code_71 : decode method_3_code 71 = .ok (.dup, 1) := by decide +kernel
theorem own_d_method_3_code_72 : decode method_3_code 72 = .ok (.iconst 0, 1) := by decide +kernel
theorem own_d_method_3_code_73 : decode method_3_code 73 = .ok (.iload_n 1, 1) := by decide +kernel
theorem own_d_method_3_code_74 : decode method_3_code 74 = .ok (.castore, 1) := by decide +kernel
theorem own_d_method_3_code_75 : decode method_3_code 75 = .ok (.dup, 1) := by decide +kernel
theorem own_d_method_3_code_76 : decode method_3_code 76 = .ok (.iconst 1, 1) := by decide +kernel
theorem own_d_method_3_code_77 : decode method_3_code 77 = .ok (.iload_n 2, 1) := by decide +kernel
theorem own_d_method_3_code_78 : decode method_3_code 78 = .ok (.castore, 1) := by decide +kernel
theorem own_d_method_3_code_79 : decode method_3_code 79 = .ok (.dup, 1) := by decide +kernel
theorem own_d_method_3_code_80 : decode method_3_code 80 = .ok (.iconst 2, 1) := by decide +kernel
theorem own_d_method_3_code_81 : decode method_3_code 81 = .ok (.iload_n 3, 1) := by decide +kernel
theorem own_d_method_3_code_82 : decode method_3_code 82 = .ok (.castore, 1) := by decide +kernel
theorem own_d_method_3_code_83 : decode method_3_code 83 = .ok (.invokespecial 11, 3) := by decide +kernel
theorem own_d_method_3_code_86 : decode method_3_code 86 = .ok (.areturn, 1) := by decide +kernel
theorem own_d_method_3_code_40 : decode method_3_code 40 = .ok (.new 9, 3) := by decide +kernel
theorem own_d_method_3_code_43 : decode method_3_code 43 = .ok (.dup, 1) := by decide +kernel
theorem own_d_method_3_code_44 : decode method_3_code 44 = .ok (.iconst 2, 1) := by decide +kernel
theorem own_d_method_3_code_45 : decode method_3_code 45 = .ok (.newarray .char, 2) := by decide +kernel
theorem own_d_method_3_code_47 : decode method_3_code 47 = .ok (.dup, 1) := by decide +kernel
theorem own_d_method_3_code_48 : decode method_3_code 48 = .ok (.iconst 0, 1) := by decide +kernel
theorem own_d_method_3_code_49 : decode method_3_code 49 = .ok (.iload_n 1, 1) := by decide +kernel
theorem own_d_method_3_code_50 : decode method_3_code 50 = .ok (.castore, 1) := by decide +kernel
theorem own_d_method_3_code_51 : decode method_3_code 51 = .ok (.dup, 1) := by decide +kernel
theorem own_d_method_3_code_52 : decode method_3_code 52 = .ok (.iconst 1, 1) := by decide +kernel
theorem own_d_method_3_code_53 : decode method_3_code 53 = .ok (.iload_n 2, 1) := by decide +kernel
theorem own_d_method_3_code_54 : decode method_3_code 54 = .ok (.castore, 1) := by decide +kernel
theorem own_d_method_3_code_55 : decode method_3_code 55 = .ok (.invokespecial 11, 3) := by decide +kernel
theorem own_d_method_3_code_58 : decode method_3_code 58 = .ok (.areturn, 1) := by decide +kernel
theorem own_d_method_3_code_20 : decode method_3_code 20 = .ok (.new 9, 3) := by decide +kernel
theorem own_d_method_3_code_23 : decode method_3_code 23 = .ok (.dup, 1) := by decide +kernel
theorem own_d_method_3_code_24 : decode method_3_code 24 = .ok (.iconst 1, 1) := by decide +kernel
theorem own_d_method_3_code_25 : decode method_3_code 25 = .ok (.newarray .char, 2) := by decide +kernel
theorem own_d_method_3_code_27 : decode method_3_code 27 = .ok (.dup, 1) := by decide +kernel
theorem own_d_method_3_code_28 : decode method_3_code 28 = .ok (.iconst 0, 1) := by decide +kernel
theorem own_d_method_3_code_29 : decode method_3_code 29 = .ok (.iload_n 1, 1) := by decide +kernel
theorem own_d_method_3_code_30 : decode method_3_code 30 = .ok (.castore, 1) := by decide +kernel
theorem own_d_method_3_code_31 : decode method_3_code 31 = .ok (.invokespecial 11, 3) := by decide +kernel
theorem own_d_method_3_code_34 : decode method_3_code 34 = .ok (.areturn, 1) := by decide +kernel
theorem own_d_method_3_code_4 : decode method_3_code 4 = .ok (.new 9, 3) := by decide +kernel
theorem own_d_method_3_code_7 : decode method_3_code 7 = .ok (.dup, 1) := by decide +kernel
theorem own_d_method_3_code_8 : decode method_3_code 8 = .ok (.iconst 0, 1) := by decide +kernel
theorem own_d_method_3_code_9 : decode method_3_code 9 = .ok (.newarray .char, 2) := by decide +kernel
theorem own_d_method_3_code_11 : decode method_3_code 11 = .ok (.invokespecial 11, 3) := by decide +kernel
theorem own_d_method_3_code_14 : decode method_3_code 14 = .ok (.areturn, 1) := by decide +kernel
theorem own_d_prog_14_method_7_code_0 : decode prog_14_method_7_code 0 = .ok (.aload_n 0, 1) := by decide +kernel
theorem own_d_prog_14_method_7_code_1 : decode prog_14_method_7_code 1 = .ok (.ldc 222, 2) := by decide +kernel
theorem own_d_prog_14_method_7_code_3 : decode prog_14_method_7_code 3 = .ok (.invokevirtual 27, 3) := by decide +kernel
theorem own_d_prog_14_method_7_code_6 : decode prog_14_method_7_code 6 = .ok (.ifCond .ne 21, 3) := by decide +kernel
theorem own_d_prog_14_method_7_code_27 : decode prog_14_method_7_code 27 = .ok (.iconst 1, 1) := by decide +kernel
theorem own_d_prog_14_method_7_code_28 : decode prog_14_method_7_code 28 = .ok (.goto 4, 3) := by decide +kernel
theorem own_d_prog_14_method_7_code_32 : decode prog_14_method_7_code 32 = .ok (.ireturn, 1) := by decide +kernel
theorem own_d_prog_14_method_7_code_9 : decode prog_14_method_7_code 9 = .ok (.aload_n 0, 1) := by decide +kernel
theorem own_d_prog_14_method_7_code_10 : decode prog_14_method_7_code 10 = .ok (.ldc 224, 2) := by decide +kernel
theorem own_d_prog_14_method_7_code_12 : decode prog_14_method_7_code 12 = .ok (.invokevirtual 27, 3) := by decide +kernel
theorem own_d_prog_14_method_7_code_15 : decode prog_14_method_7_code 15 = .ok (.ifCond .ne 12, 3) := by decide +kernel
theorem own_d_prog_14_method_7_code_18 : decode prog_14_method_7_code 18 = .ok (.aload_n 0, 1) := by decide +kernel
theorem own_d_prog_14_method_7_code_19 : decode prog_14_method_7_code 19 = .ok (.ldc 226, 2) := by decide +kernel
theorem own_d_prog_14_method_7_code_21 : decode prog_14_method_7_code 21 = .ok (.invokevirtual 27, 3) := by decide +kernel
theorem own_d_prog_14_method_7_code_24 : decode prog_14_method_7_code 24 = .ok (.ifCond .eq 7, 3) := by decide +kernel
theorem own_d_prog_14_method_7_code_31 : decode prog_14_method_7_code 31 = .ok (.iconst 0, 1) := by decide +kernel
theorem own_pn_com_example_pincio_pincio_core_CanonicalLiterals : plainName "com/example/pincio/pincio/core/CanonicalLiterals" = true := by first | (simp [plainName, overriddenIn]; done) | decide +kernel
set_option maxRecDepth 65536 in
theorem own_hws {a0 : Array Value} {Z : State} (hw : ∀ d ∈ tables_1, d.before a0 Z = true) : ∀ d ∈ StrChars.Road.words, d.before a0 Z = true := fun d hd => hw d ((by decide +kernel : ∀ d ∈ StrChars.Road.words, d ∈ tables_1) d hd)
set_option maxRecDepth 65536 in
theorem own_heq {a0 : Array Value} {Z : State} (hw : ∀ d ∈ tables_1, d.before a0 Z = true) : ∀ d ∈ StrChars.Road.wordsEq, d.before a0 Z = true := fun d hd => hw d ((by decide +kernel : ∀ d ∈ StrChars.Road.wordsEq, d ∈ tables_1) d hd)
set_option maxRecDepth 65536 in
theorem own_hwS {a0 : Array Value} {Z : State} (hw : ∀ d ∈ tables_1, d.before a0 Z = true) : ∀ d ∈ Bundle.stringAtoms, d.before a0 Z = true := fun d hd => hw d ((by decide +kernel : ∀ d ∈ Bundle.stringAtoms, d ∈ tables_1) d hd)
def own_isp (cs : List Int32) : Int32 := if cs = [73, 78, 70] then 1 else if cs = [45, 73, 78, 70] then 1 else if cs = [78, 97, 78] then 1 else 0
def own_mk (n x0 x1 x2 x3 x4 : Int32) : List Int32 := if n = (0 : Int32) then [] else if n = (1 : Int32) then [x0] else if n = (2 : Int32) then [x0, x1] else if n = (3 : Int32) then [x0, x1, x2] else if n = (4 : Int32) then [x0, x1, x2, x3] else [x0, x1, x2, x3, x4]
theorem own_ispO {n x0 x1 x2 x3 x4 : Int32} (h3 : ¬ n = (3 : Int32)) (h4 : ¬ n = (4 : Int32)) : own_isp (own_mk n x0 x1 x2 x3 x4) = 0 := by
  by_cases h0 : n = (0 : Int32)
  · subst h0; rfl
  by_cases h1 : n = (1 : Int32)
  · subst h1; simp [own_mk, own_isp]
  by_cases h2 : n = (2 : Int32)
  · subst h2; simp [own_mk, own_isp]
  simp [own_mk, own_isp, h0, h1, h2, h3, h4]
theorem own_getI (L : List Int32) (n : Nat) : (L.map Value.int).getD n (.int 0) = .int (L.getD n 0) := by
  rw [List.getD_eq_getElem?_getD, List.getD_eq_getElem?_getD, List.getElem?_map]; cases L[n]? <;> rfl
theorem own_getB {P : Int32 → Prop} (L : List Int32) (h : ∀ c ∈ L, P c) (h0 : P 0) (n : Nat) : P (L.getD n 0) := by
  rw [List.getD_eq_getElem?_getD]
  cases q : L[n]? with
  | none => exact h0
  | some c => exact h c (List.mem_of_getElem? q)
theorem own_m7 (x : Int32) : ¬ (x &&& (7 : Int32)) < 0 ∧ (x &&& (7 : Int32)) < 8 := by
  have h := c_mask x 7 3 (by decide) (by decide)
  constructor
  · rw [Int32.lt_iff_toInt_lt, h]; have e : (0 : Int32).toInt = 0 := rfl; omega
  · rw [Int32.lt_iff_toInt_lt, h]; have e : (8 : Int32).toInt = 8 := rfl; omega
theorem own_lo8 (c : Int32) : (c.toInt8.toInt32).toInt8.toInt32 = c.toInt8.toInt32 := by simp
theorem own_lo8L (c : Int32) : (StrChars.lo8 c).toInt8.toInt32 = StrChars.lo8 c := own_lo8 c
theorem own_lo8H (c : Int32) : (StrChars.hi8 c).toInt8.toInt32 = StrChars.hi8 c := own_lo8 _
theorem own_lo0 (c : Int32) : ((c >>> ((0 : Int32) &&& 31)).toInt8.toInt32) = StrChars.lo8 c := by rw [StrChars.shr0]; rfl
theorem own_narC2 {c : Int32} (h : ¬ c < 0 ∧ ¬ (65535 : Int32) < c) : nar .char c = c := by
  obtain ⟨h1, h2⟩ := h
  rw [Int32.lt_iff_toInt_lt] at h1 h2
  have e0 : (0 : Int32).toInt = 0 := rfl
  have e1 : (65535 : Int32).toInt = 65535 := rfl
  have q := c_i2c c
  refine Int32.toInt_inj.mp ?_
  show c.toUInt32.toUInt16.toUInt32.toInt32.toInt = c.toInt
  omega
theorem own_ch16 (x : Int32) : ¬ x.toUInt32.toUInt16.toUInt32.toInt32 < 0 ∧ ¬ (65535 : Int32) < x.toUInt32.toUInt16.toUInt32.toInt32 := by
  have q := c_i2c x
  have e0 : (0 : Int32).toInt = 0 := rfl
  have e1 : (65535 : Int32).toInt = 65535 := rfl
  constructor <;> (rw [Int32.lt_iff_toInt_lt]; omega)
set_option maxRecDepth 65536 in
set_option maxHeartbeats 40000000 in
theorem own_nbl1 (l : Launch) (Z : State) (a0 : Array Value) (hw : ∀ d ∈ tables_1, d.before a0 Z = true)  (h0 : Heap) (n0 : Nat)  :
    own_Met l (⟨"java/lang/StringUTF16", "newBytesLength", "(I)I"⟩ : MethodName) jdk_52_method_3_code 1 (some .int) ({ frames := 0, cells := 0, slots := 0, locals := 0 } : Room) Z #[(.int (1 : Int32))] h0 (fun v h L => v = some (.int (2 : Int32)) ∧ Fr n0 L ∧ h = h0) := by
  refine own_met (plainFor_of_name own_pn_java_lang_StringUTF16) ?_
  intro p e s m below meth c T0 hx hby hml hZ hown hnm hret hlocks X0 e0 hh0
  have ef : entryFrame m #[(.int (1 : Int32))] 1 = mkF m 0 #[.val (.int (1 : Int32))] [] := by first | (simp [entryFrame, mkF, argsToLocals, Value.category]; done) | rfl
  refine own_entry ef ?_
  have N0 := Fr.nil n0
  refine own_iloadN X0 hx (hb hby own_d_jdk_52_method_3_code_0) rfl rfl ?_
  refine own_ifT X0 hx (hb hby own_d_jdk_52_method_3_code_1) (by decide) rfl (by decide) ?_
  refine own_iloadN X0 hx (hb hby own_d_jdk_52_method_3_code_12) rfl rfl ?_
  refine own_ldcInt X0 hx hZ hown (hw _ (List.mem_of_getElem? (i := 69) rfl)) (hb hby own_d_jdk_52_method_3_code_13) rfl ?_
  refine own_icmpT X0 hx (hb hby own_d_jdk_52_method_3_code_15) (by decide) rfl (by decide) ?_
  refine own_iloadN X0 hx (hb hby own_d_jdk_52_method_3_code_55) rfl rfl ?_
  refine own_iconst X0 hx (1 : Int32) (hb hby own_d_jdk_52_method_3_code_56) (by decide) rfl ?_
  refine own_ishl X0 hx (hb hby own_d_jdk_52_method_3_code_57) rfl ?_
  rw [show ((1 : Int32) <<< ((1 : Int32) &&& 31)) = (2 : Int32) from by decide]
  exact own_retI X0 hx hlocks hret (hb hby own_d_jdk_52_method_3_code_58) (by decide) (by decide) ⟨rfl, N0, e0⟩
set_option maxRecDepth 65536 in
set_option maxHeartbeats 40000000 in
theorem own_nbf1 (l : Launch) (Z : State) (a0 : Array Value) (hw : ∀ d ∈ tables_1, d.before a0 Z = true)  (h0 : Heap) (n0 : Nat) (O0 : Old Z n0 h0) :
    own_Met l (⟨"java/lang/StringUTF16", "newBytesFor", "(I)[B"⟩ : MethodName) jdk_52_method_2_code 1 (some (.array .byte)) ({ frames := 1, cells := 1, slots := 2, locals := 12 } : Room) Z #[(.int (1 : Int32))] h0 (fun v h L => ∃ (b : Addr) (k : ClassId), v = some (.ref b) ∧ Fr n0 L ∧ Keep h0 h [] ∧ n0 ≤ b ∧ h0.size ≤ b ∧ Arv Z h b k .byte (2 : Int32) [.int (0 : Int32), .int (0 : Int32)] (.int (0 : Int32))) := by
  refine own_met (plainFor_of_name own_pn_java_lang_StringUTF16) ?_
  intro p e s m below meth c T0 hx hby hml hZ hown hnm hret hlocks X0 e0 hh0
  have ef : entryFrame m #[(.int (1 : Int32))] 1 = mkF m 0 #[.val (.int (1 : Int32))] [] := by first | (simp [entryFrame, mkF, argsToLocals, Value.category]; done) | rfl
  refine own_entry ef ?_
  have N0 := Fr.nil n0
  have K0 := Keep.refl h0 []
  have Z0 : n0 ≤ h0.size := O0.1 ▸ O0.2.1
  refine own_iloadN X0 hx (hb hby own_d_jdk_52_method_2_code_0) rfl rfl ?_
  refine own_static X0 hx hZ (y := (⟨"java/lang/StringUTF16", "newBytesLength", "(I)I"⟩ : MethodName)) hown (hw _ (List.mem_of_getElem? (i := 66) rfl)) (hw _ (List.mem_of_getElem? (i := 67) rfl)) (hw _ (List.mem_of_getElem? (i := 52) rfl)) (hw _ (List.mem_of_getElem? (i := 68) rfl)) (by decide) e0 (by decide) (W := 0) (by decide) (by decide) (by decide) [(.int (1 : Int32))] [] (by rw [hml]; rfl) (own_nbl1 l Z a0 hw h0 n0) own_pd0 rfl rfl rfl (hb hby own_d_jdk_52_method_2_code_1) rfl ?_
  intro v1 T1 L1 X1 hQ1
  obtain ⟨rfl, Nq1, hh1⟩ := hQ1
  have N1 := Fr.app N0 Nq1
  show own_Ends p e below _ (T1.setTop (mkF m 4 #[.val (.int (1 : Int32))] [(.int (2 : Int32))]))
  refine own_newP X1 hx hZ (aty := .byte) (hw _ (List.mem_of_getElem? (i := 25) rfl)) hh1 (hb hby own_d_jdk_52_method_2_code_4) (by decide) 2 (by decide) (by decide) (by decide) (by decide) rfl ?_
  intro T2 h2 b2 k2 X2 e2 g2 E2 V2q
  have g_b2 : n0 ≤ b2 := Nat.le_trans (own_oz O0) (Nat.le_of_eq g2.symm)
  have sz_b2 : h0.size ≤ b2 := Nat.le_trans K0.1 (Nat.le_of_eq g2.symm)
  have K3 := K0.ext E2
  have V2 : Arv Z h2 b2 k2 .byte (2 : Int32) [(.int (0 : Int32)), (.int (0 : Int32))] (.int (0 : Int32)) := Arv.pad V2q (pad_rep [] (.int (0 : Int32)) 2)
  exact own_retA X2 hx hlocks hret rfl rfl (hb hby own_d_jdk_52_method_2_code_6) (by decide) (by decide) ⟨b2, _, rfl, N1, by rw [e2]; exact ⟨K3, g_b2, sz_b2, V2⟩⟩
set_option maxRecDepth 65536 in
set_option maxHeartbeats 40000000 in
theorem own_put1_0 (l : Launch) (Z : State) (a0 : Array Value) (hw : ∀ d ∈ tables_1, d.before a0 Z = true) (b1 : Addr) (kb : ClassId) (ch y0 y1 : Int32) (h0 : Heap) (n0 : Nat) (O0 : Old Z n0 h0) (SA : Sta Z Z.heap "java/lang/StringUTF16" "$assertionsDisabled" "Z" (.int (1 : Int32))) (SH : Sta Z Z.heap "java/lang/StringUTF16" "HI_BYTE_SHIFT" "I" (.int (0 : Int32))) (SL : Sta Z Z.heap "java/lang/StringUTF16" "LO_BYTE_SHIFT" "I" (.int (8 : Int32))) (g_b1 : n0 ≤ b1) (V0 : Arv Z h0 b1 kb .byte (2 : Int32) [.int y0, .int y1] (.int (0 : Int32))) :
    own_Met l (⟨"java/lang/StringUTF16", "putChar", "([BII)V"⟩ : MethodName) jdk_52_method_4_code 3 none ({ frames := 0, cells := 0, slots := 0, locals := 0 } : Room) Z #[(.ref b1), (.int (0 : Int32)), (.int ch)] h0 (fun v h L => v = none ∧ Fr n0 L ∧ Keep h0 h [b1] ∧ Arv Z h b1 kb .byte (2 : Int32) [.int (StrChars.lo8 ch), .int (StrChars.hi8 ch)] (.int (0 : Int32))) := by
  refine own_met (plainFor_of_name own_pn_java_lang_StringUTF16) ?_
  intro p e s m below meth c T0 hx hby hml hZ hown hnm hret hlocks X0 e0 hh0
  have ef : entryFrame m #[(.ref b1), (.int (0 : Int32)), (.int ch)] 3 = mkF m 0 #[.val (.ref b1), .val (.int (0 : Int32)), .val (.int ch)] [] := by first | (simp [entryFrame, mkF, argsToLocals, Value.category]; done) | rfl
  refine own_entry ef ?_
  have N0 := Fr.nil n0
  have K0 := Keep.refl h0 [b1]
  have Z0 : n0 ≤ h0.size := O0.1 ▸ O0.2.1
  refine own_getS X0 hx hZ hown (host := "") (Or.inl (hw _ (List.mem_of_getElem? (i := 73) rfl))) Via.refl e0 (SA.ext O0.2) (hb hby own_d_jdk_52_method_4_code_0) rfl ?_
  intro T1 X1 e1
  refine own_ifT X1 hx (hb hby own_d_jdk_52_method_4_code_3) (by decide) rfl (by decide) ?_
  refine own_iloadN X1 hx (hb hby own_d_jdk_52_method_4_code_28) rfl rfl ?_
  refine own_iconst X1 hx (1 : Int32) (hb hby own_d_jdk_52_method_4_code_29) (by decide) rfl ?_
  refine own_ishl X1 hx (hb hby own_d_jdk_52_method_4_code_30) rfl ?_
  rw [show ((0 : Int32) <<< ((1 : Int32) &&& 31)) = (0 : Int32) from by decide]
  refine own_istoreN X1 hx #[.val (.ref b1), .val (.int (0 : Int32)), .val (.int ch)] (hb hby own_d_jdk_52_method_4_code_31) rfl rfl ?_
  refine own_aloadN X1 hx (hb hby own_d_jdk_52_method_4_code_32) rfl rfl rfl ?_
  refine own_iloadN X1 hx (hb hby own_d_jdk_52_method_4_code_33) rfl rfl ?_
  refine own_iinc X1 hx #[.val (.ref b1), .val (.int (1 : Int32)), .val (.int ch)] (hb hby own_d_jdk_52_method_4_code_34) rfl rfl rfl ?_
  refine own_iloadN X1 hx (hb hby own_d_jdk_52_method_4_code_37) rfl rfl ?_
  refine own_getS X1 hx hZ hown (host := "") (Or.inl (hw _ (List.mem_of_getElem? (i := 74) rfl))) Via.refl e1 (SH.ext O0.2) (hb hby own_d_jdk_52_method_4_code_38) rfl ?_
  intro T2 X2 e2
  refine own_ishr X2 hx (hb hby own_d_jdk_52_method_4_code_41) rfl ?_
  refine own_i2b X2 hx (hb hby own_d_jdk_52_method_4_code_42) rfl ?_
  rw [show ((ch >>> ((0 : Int32) &&& 31)).toInt8.toInt32) = (StrChars.lo8 ch) from own_lo0 ch]
  refine own_stB X2 hx hZ e2 V0 ⟨by decide, by decide⟩ 0 rfl (Nat.le_of_ble_eq_true rfl) (own_lo8L ch) N0 g_b1 (hb hby own_d_jdk_52_method_4_code_43) rfl ?_
  intro T3 h3 X3 e3 W3 N3 V3
  have K4 := K0.wr W3 (Or.inl (List.mem_of_getElem? (i := 0) rfl))
  refine own_aloadN X3 hx (hb hby own_d_jdk_52_method_4_code_44) rfl rfl rfl ?_
  refine own_iloadN X3 hx (hb hby own_d_jdk_52_method_4_code_45) rfl rfl ?_
  refine own_iloadN X3 hx (hb hby own_d_jdk_52_method_4_code_46) rfl rfl ?_
  have f5 := (O0.wr W3 g_b1)
  refine own_getS X3 hx hZ hown (host := "") (Or.inl (hw _ (List.mem_of_getElem? (i := 75) rfl))) Via.refl e3 (SL.ext f5.2) (hb hby own_d_jdk_52_method_4_code_47) rfl ?_
  intro T6 X6 e6
  refine own_ishr X6 hx (hb hby own_d_jdk_52_method_4_code_50) rfl ?_
  refine own_i2b X6 hx (hb hby own_d_jdk_52_method_4_code_51) rfl ?_
  rw [show ((ch >>> ((8 : Int32) &&& 31)).toInt8.toInt32) = (StrChars.hi8 ch) from rfl]
  refine own_stB X6 hx hZ e6 V3 ⟨by decide, by decide⟩ 1 rfl (Nat.le_of_ble_eq_true rfl) (own_lo8H ch) N3 g_b1 (hb hby own_d_jdk_52_method_4_code_52) rfl ?_
  intro T7 h7 X7 e7 W7 N7 V7
  have K8 := K4.wr W7 (Or.inl (List.mem_of_getElem? (i := 0) rfl))
  exact own_ret X7 hx hlocks hret (hb hby own_d_jdk_52_method_4_code_53) (by decide) (by decide) ⟨rfl, N7, by rw [e7]; exact ⟨K8, V7⟩⟩
set_option maxRecDepth 65536 in
set_option maxHeartbeats 40000000 in
theorem own_get1_0 (l : Launch) (Z : State) (a0 : Array Value) (hw : ∀ d ∈ tables_1, d.before a0 Z = true) (b1 : Addr) (kb : ClassId) (x0 : Int32) (h0 : Heap) (n0 : Nat) (O0 : Old Z n0 h0) (SA : Sta Z Z.heap "java/lang/StringUTF16" "$assertionsDisabled" "Z" (.int (1 : Int32))) (SH : Sta Z Z.heap "java/lang/StringUTF16" "HI_BYTE_SHIFT" "I" (.int (0 : Int32))) (SL : Sta Z Z.heap "java/lang/StringUTF16" "LO_BYTE_SHIFT" "I" (.int (8 : Int32))) (hx0 : ¬ x0 < 0 ∧ ¬ (65535 : Int32) < x0) (V0 : Arv Z h0 b1 kb .byte (2 : Int32) [.int (StrChars.lo8 x0), .int (StrChars.hi8 x0)] (.int (0 : Int32))) :
    own_Met l (⟨"java/lang/StringUTF16", "getChar", "([BI)C"⟩ : MethodName) jdk_52_method_5_code 2 (some .char) ({ frames := 0, cells := 0, slots := 0, locals := 0 } : Room) Z #[(.ref b1), (.int (0 : Int32))] h0 (fun v h L => v = some (.int x0) ∧ Fr n0 L ∧ h = h0) := by
  refine own_met (plainFor_of_name own_pn_java_lang_StringUTF16) ?_
  intro p e s m below meth c T0 hx hby hml hZ hown hnm hret hlocks X0 e0 hh0
  have ef : entryFrame m #[(.ref b1), (.int (0 : Int32))] 2 = mkF m 0 #[.val (.ref b1), .val (.int (0 : Int32))] [] := by first | (simp [entryFrame, mkF, argsToLocals, Value.category]; done) | rfl
  refine own_entry ef ?_
  have N0 := Fr.nil n0
  have K0 := Keep.refl h0 []
  have Z0 : n0 ≤ h0.size := O0.1 ▸ O0.2.1
  refine own_getS X0 hx hZ hown (host := "") (Or.inl (hw _ (List.mem_of_getElem? (i := 73) rfl))) Via.refl e0 (SA.ext O0.2) (hb hby own_d_jdk_52_method_5_code_0) rfl ?_
  intro T1 X1 e1
  refine own_ifT X1 hx (hb hby own_d_jdk_52_method_5_code_3) (by decide) rfl (by decide) ?_
  refine own_iloadN X1 hx (hb hby own_d_jdk_52_method_5_code_28) rfl rfl ?_
  refine own_iconst X1 hx (1 : Int32) (hb hby own_d_jdk_52_method_5_code_29) (by decide) rfl ?_
  refine own_ishl X1 hx (hb hby own_d_jdk_52_method_5_code_30) rfl ?_
  rw [show ((0 : Int32) <<< ((1 : Int32) &&& 31)) = (0 : Int32) from by decide]
  refine own_istoreN X1 hx #[.val (.ref b1), .val (.int (0 : Int32))] (hb hby own_d_jdk_52_method_5_code_31) rfl rfl ?_
  refine own_aloadN X1 hx (hb hby own_d_jdk_52_method_5_code_32) rfl rfl rfl ?_
  refine own_iloadN X1 hx (hb hby own_d_jdk_52_method_5_code_33) rfl rfl ?_
  refine own_iinc X1 hx #[.val (.ref b1), .val (.int (1 : Int32))] (hb hby own_d_jdk_52_method_5_code_34) rfl rfl rfl ?_
  refine own_baloadBytes X1 hx hZ e1 V0 ⟨by decide, by decide⟩ rfl (hb hby own_d_jdk_52_method_5_code_37) rfl ?_
  refine own_sipush X1 hx (255 : Int32) (hb hby own_d_jdk_52_method_5_code_38) (by decide) rfl ?_
  refine own_iand X1 hx (hb hby own_d_jdk_52_method_5_code_41) rfl ?_
  refine own_getS X1 hx hZ hown (host := "") (Or.inl (hw _ (List.mem_of_getElem? (i := 74) rfl))) Via.refl e1 (SH.ext O0.2) (hb hby own_d_jdk_52_method_5_code_42) rfl ?_
  intro T2 X2 e2
  refine own_ishl X2 hx (hb hby own_d_jdk_52_method_5_code_45) rfl ?_
  refine own_aloadN X2 hx (hb hby own_d_jdk_52_method_5_code_46) rfl rfl rfl ?_
  refine own_iloadN X2 hx (hb hby own_d_jdk_52_method_5_code_47) rfl rfl ?_
  refine own_baloadBytes X2 hx hZ e2 V0 ⟨by decide, by decide⟩ rfl (hb hby own_d_jdk_52_method_5_code_48) rfl ?_
  refine own_sipush X2 hx (255 : Int32) (hb hby own_d_jdk_52_method_5_code_49) (by decide) rfl ?_
  refine own_iand X2 hx (hb hby own_d_jdk_52_method_5_code_52) rfl ?_
  refine own_getS X2 hx hZ hown (host := "") (Or.inl (hw _ (List.mem_of_getElem? (i := 75) rfl))) Via.refl e2 (SL.ext O0.2) (hb hby own_d_jdk_52_method_5_code_53) rfl ?_
  intro T3 X3 e3
  refine own_ishl X3 hx (hb hby own_d_jdk_52_method_5_code_56) rfl ?_
  refine own_ior X3 hx (hb hby own_d_jdk_52_method_5_code_57) rfl ?_
  refine own_i2c X3 hx (hb hby own_d_jdk_52_method_5_code_58) rfl ?_
  rw [show (((((StrChars.lo8 x0) &&& (255 : Int32)) <<< ((0 : Int32) &&& 31)) ||| (((StrChars.hi8 x0) &&& (255 : Int32)) <<< ((8 : Int32) &&& 31))).toUInt32.toUInt16.toUInt32.toInt32) = x0 from StrChars.pair_says hx0.1 hx0.2]
  exact own_retN X3 hx hlocks hret (by simp) (hb hby own_d_jdk_52_method_5_code_59) (by decide) (by decide) (own_narC2 hx0) ⟨rfl, N0, e3⟩
set_option maxRecDepth 65536 in
set_option maxHeartbeats 40000000 in
theorem own_tob1 (l : Launch) (Z : State) (a0 : Array Value) (hw : ∀ d ∈ tables_1, d.before a0 Z = true) (c1 : Addr) (kc : ClassId) (x0 : Int32) (h0 : Heap) (n0 : Nat) (O0 : Old Z n0 h0) (SA : Sta Z Z.heap "java/lang/StringUTF16" "$assertionsDisabled" "Z" (.int (1 : Int32))) (SH : Sta Z Z.heap "java/lang/StringUTF16" "HI_BYTE_SHIFT" "I" (.int (0 : Int32))) (SL : Sta Z Z.heap "java/lang/StringUTF16" "LO_BYTE_SHIFT" "I" (.int (8 : Int32))) (VC : Arv Z h0 c1 kc .char (1 : Int32) [.int x0] (.int (0 : Int32))) :
    own_Met l (⟨"java/lang/StringUTF16", "toBytes", "([CII)[B"⟩ : MethodName) jdk_52_method_14_code 5 (some (.array .byte)) ({ frames := 2, cells := 1, slots := 2, locals := 24 } : Room) Z #[(.ref c1), (.int (0 : Int32)), (.int (1 : Int32))] h0 (fun v h L => ∃ (b : Addr) (k : ClassId), v = some (.ref b) ∧ Fr n0 L ∧ Keep h0 h [] ∧ n0 ≤ b ∧ h0.size ≤ b ∧ Arv Z h b k .byte (2 : Int32) [.int (StrChars.lo8 x0), .int (StrChars.hi8 x0)] (.int (0 : Int32))) := by
  refine own_met (plainFor_of_name own_pn_java_lang_StringUTF16) ?_
  intro p e s m below meth c T0 hx hby hml hZ hown hnm hret hlocks X0 e0 hh0
  have ef : entryFrame m #[(.ref c1), (.int (0 : Int32)), (.int (1 : Int32))] 5 = mkF m 0 #[.val (.ref c1), .val (.int (0 : Int32)), .val (.int (1 : Int32)), .unset, .unset] [] := by first | (simp [entryFrame, mkF, argsToLocals, Value.category]; done) | rfl
  refine own_entry ef ?_
  have N0 := Fr.nil n0
  have K0 := Keep.refl h0 []
  have Z0 : n0 ≤ h0.size := O0.1 ▸ O0.2.1
  refine own_iloadN X0 hx (hb hby own_d_jdk_52_method_14_code_0) rfl rfl ?_
  refine own_static X0 hx hZ (y := (⟨"java/lang/StringUTF16", "newBytesFor", "(I)[B"⟩ : MethodName)) hown (hw _ (List.mem_of_getElem? (i := 63) rfl)) (hw _ (List.mem_of_getElem? (i := 64) rfl)) (hw _ (List.mem_of_getElem? (i := 52) rfl)) (hw _ (List.mem_of_getElem? (i := 65) rfl)) (by decide) e0 (by decide) (W := 0) (by decide) (by decide) (by decide) [(.int (1 : Int32))] [] (by rw [hml]; rfl) (own_nbf1 l Z a0 hw h0 n0 O0) own_pd1 rfl rfl rfl (hb hby own_d_jdk_52_method_14_code_1) rfl ?_
  intro v1 T1 L1 X1 hQ1
  obtain ⟨b1, k1, rfl, Nq1, Kq1, g_b1, sz_b1, V1⟩ := hQ1
  have sz_b1 := Nat.le_trans K0.1 sz_b1
  have N1 := Fr.app N0 Nq1
  have K2 := K0.trans Kq1 all0
  have f3 := (VC.keep Kq1 nin0)
  show own_Ends p e below _ (T1.setTop (mkF m 4 #[.val (.ref c1), .val (.int (0 : Int32)), .val (.int (1 : Int32)), .unset, .unset] [(.ref b1)]))
  refine own_astoreN X1 hx #[.val (.ref c1), .val (.int (0 : Int32)), .val (.int (1 : Int32)), .val (.ref b1), .unset] (hb hby own_d_jdk_52_method_14_code_4) rfl rfl rfl ?_
  refine own_iconst X1 hx (0 : Int32) (hb hby own_d_jdk_52_method_14_code_5) (by decide) rfl ?_
  refine own_istore X1 hx #[.val (.ref c1), .val (.int (0 : Int32)), .val (.int (1 : Int32)), .val (.ref b1), .val (.int (0 : Int32))] (hb hby own_d_jdk_52_method_14_code_6) rfl rfl ?_
  refine own_iload X1 hx (hb hby own_d_jdk_52_method_14_code_8) rfl rfl ?_
  refine own_iloadN X1 hx (hb hby own_d_jdk_52_method_14_code_10) rfl rfl ?_
  refine own_icmpF X1 hx (hb hby own_d_jdk_52_method_14_code_11) rfl (by decide) ?_
  refine own_aloadN X1 hx (hb hby own_d_jdk_52_method_14_code_14) rfl rfl rfl ?_
  refine own_iload X1 hx (hb hby own_d_jdk_52_method_14_code_15) rfl rfl ?_
  refine own_aloadN X1 hx (hb hby own_d_jdk_52_method_14_code_17) rfl rfl rfl ?_
  refine own_iloadN X1 hx (hb hby own_d_jdk_52_method_14_code_18) rfl rfl ?_
  refine own_caload X1 hx hZ rfl f3 ⟨by decide, by decide⟩ rfl (hb hby own_d_jdk_52_method_14_code_19) rfl ?_
  have f4 := (O0.keep Kq1 all0)
  refine own_static X1 hx hZ (y := (⟨"java/lang/StringUTF16", "putChar", "([BII)V"⟩ : MethodName)) hown (hw _ (List.mem_of_getElem? (i := 70) rfl)) (hw _ (List.mem_of_getElem? (i := 71) rfl)) (hw _ (List.mem_of_getElem? (i := 52) rfl)) (hw _ (List.mem_of_getElem? (i := 72) rfl)) (by decide) rfl (by decide) (W := 0) (by decide) (by decide) (by decide) [(.ref b1), (.int (0 : Int32)), (.int x0)] [] (by rw [hml]; rfl) (own_put1_0 l Z a0 hw b1 _ x0 (0 : Int32) (0 : Int32) T1.heap n0 f4 SA SH SL g_b1 V1) own_pd2 rfl rfl rfl (hb hby own_d_jdk_52_method_14_code_20) rfl ?_
  intro v5 T5 L5 X5 hQ5
  obtain ⟨rfl, Nq5, Kq5, V5⟩ := hQ5
  have N5 := Fr.app N1 Nq5
  have K6 := K2.trans Kq5 (allS (Or.inr sz_b1) all0)
  show own_Ends p e below _ (T5.setTop (mkF m 23 #[.val (.ref c1), .val (.int (0 : Int32)), .val (.int (1 : Int32)), .val (.ref b1), .val (.int (0 : Int32))] []))
  refine own_iinc X5 hx #[.val (.ref c1), .val (.int (1 : Int32)), .val (.int (1 : Int32)), .val (.ref b1), .val (.int (0 : Int32))] (hb hby own_d_jdk_52_method_14_code_23) rfl rfl rfl ?_
  refine own_iinc X5 hx #[.val (.ref c1), .val (.int (1 : Int32)), .val (.int (1 : Int32)), .val (.ref b1), .val (.int (1 : Int32))] (hb hby own_d_jdk_52_method_14_code_26) rfl rfl rfl ?_
  refine own_goto X5 hx (hb hby own_d_jdk_52_method_14_code_29) (by decide) rfl ?_
  refine own_iload X5 hx (hb hby own_d_jdk_52_method_14_code_8) rfl rfl ?_
  refine own_iloadN X5 hx (hb hby own_d_jdk_52_method_14_code_10) rfl rfl ?_
  refine own_icmpT X5 hx (hb hby own_d_jdk_52_method_14_code_11) (by decide) rfl (by decide) ?_
  refine own_aloadN X5 hx (hb hby own_d_jdk_52_method_14_code_32) rfl rfl rfl ?_
  exact own_retA X5 hx hlocks hret rfl rfl (hb hby own_d_jdk_52_method_14_code_33) (by decide) (by decide) ⟨b1, _, rfl, N5, by exact ⟨K6, g_b1, sz_b1, V5⟩⟩
set_option maxRecDepth 65536 in
set_option maxHeartbeats 40000000 in
theorem own_cmpi1 (l : Launch) (Z : State) (a0 : Array Value) (hw : ∀ d ∈ tables_1, d.before a0 Z = true) (c1 : Addr) (kc : ClassId) (x0 : Int32) (b1 : Addr) (kb : ClassId) (h0 : Heap) (n0 : Nat) (O0 : Old Z n0 h0) (VC : Arv Z h0 c1 kc .char (1 : Int32) [.int x0] (.int (0 : Int32))) (g_b1 : n0 ≤ b1) (VB : Arv Z h0 b1 kb .byte (1 : Int32) [.int (0 : Int32)] (.int (0 : Int32))) (HB : (255 : Int32) < x0) :
    own_Met l (⟨"java/lang/StringUTF16", "compress", "([CI[BII)I"⟩ : MethodName) jdk_52_method_21_code 7 (some .int) ({ frames := 0, cells := 0, slots := 0, locals := 0 } : Room) Z #[(.ref c1), (.int (0 : Int32)), (.ref b1), (.int (0 : Int32)), (.int (1 : Int32))] h0 (fun v h L => ∃ i : Int32, v = some (.int i) ∧ ((i = (0 : Int32) ∧ (255 : Int32) < x0)) ∧ Fr n0 L ∧ Keep h0 h [b1]) := by
  refine own_met (plainFor_of_name own_pn_java_lang_StringUTF16) ?_
  intro p e s m below meth c T0 hx hby hml hZ hown hnm hret hlocks X0 e0 hh0
  have ef : entryFrame m #[(.ref c1), (.int (0 : Int32)), (.ref b1), (.int (0 : Int32)), (.int (1 : Int32))] 7 = mkF m 0 #[.val (.ref c1), .val (.int (0 : Int32)), .val (.ref b1), .val (.int (0 : Int32)), .val (.int (1 : Int32)), .unset, .unset] [] := by first | (simp [entryFrame, mkF, argsToLocals, Value.category]; done) | rfl
  refine own_entry ef ?_
  have N0 := Fr.nil n0
  have K0 := Keep.refl h0 [b1]
  have Z0 : n0 ≤ h0.size := O0.1 ▸ O0.2.1
  refine own_iconst X0 hx (0 : Int32) (hb hby own_d_jdk_52_method_21_code_0) (by decide) rfl ?_
  refine own_istore X0 hx #[.val (.ref c1), .val (.int (0 : Int32)), .val (.ref b1), .val (.int (0 : Int32)), .val (.int (1 : Int32)), .val (.int (0 : Int32)), .unset] (hb hby own_d_jdk_52_method_21_code_1) rfl rfl ?_
  refine own_iload X0 hx (hb hby own_d_jdk_52_method_21_code_3) rfl rfl ?_
  refine own_iload X0 hx (hb hby own_d_jdk_52_method_21_code_5) rfl rfl ?_
  refine own_icmpF X0 hx (hb hby own_d_jdk_52_method_21_code_7) rfl (by decide) ?_
  refine own_aloadN X0 hx (hb hby own_d_jdk_52_method_21_code_10) rfl rfl rfl ?_
  refine own_iloadN X0 hx (hb hby own_d_jdk_52_method_21_code_11) rfl rfl ?_
  refine own_caload X0 hx hZ e0 VC ⟨by decide, by decide⟩ rfl (hb hby own_d_jdk_52_method_21_code_12) rfl ?_
  refine own_istore X0 hx #[.val (.ref c1), .val (.int (0 : Int32)), .val (.ref b1), .val (.int (0 : Int32)), .val (.int (1 : Int32)), .val (.int (0 : Int32)), .val (.int x0)] (hb hby own_d_jdk_52_method_21_code_13) rfl rfl ?_
  refine own_iload X0 hx (hb hby own_d_jdk_52_method_21_code_15) rfl rfl ?_
  refine own_sipush X0 hx (255 : Int32) (hb hby own_d_jdk_52_method_21_code_17) (by decide) rfl ?_
  refine own_icmp_le X0 hx (hb hby own_d_jdk_52_method_21_code_20) (by decide) rfl rfl (fun hc20_1 => ?_) (fun hc20_1 => ?_)
  · refine own_aloadN X0 hx (hb hby own_d_jdk_52_method_21_code_26) rfl rfl rfl ?_
    refine own_iloadN X0 hx (hb hby own_d_jdk_52_method_21_code_27) rfl rfl ?_
    refine own_iload X0 hx (hb hby own_d_jdk_52_method_21_code_28) rfl rfl ?_
    refine own_i2b X0 hx (hb hby own_d_jdk_52_method_21_code_30) rfl ?_
    refine own_stB X0 hx hZ e0 VB ⟨by decide, by decide⟩ 0 rfl (Nat.le_of_ble_eq_true rfl) (own_lo8 x0) N0 g_b1 (hb hby own_d_jdk_52_method_21_code_31) rfl ?_
    intro T2 h2 X2 e2 W2 N2 V2
    have K3 := K0.wr W2 (Or.inl (List.mem_of_getElem? (i := 0) rfl))
    refine own_iinc X2 hx #[.val (.ref c1), .val (.int (1 : Int32)), .val (.ref b1), .val (.int (0 : Int32)), .val (.int (1 : Int32)), .val (.int (0 : Int32)), .val (.int x0)] (hb hby own_d_jdk_52_method_21_code_32) rfl rfl rfl ?_
    refine own_iinc X2 hx #[.val (.ref c1), .val (.int (1 : Int32)), .val (.ref b1), .val (.int (1 : Int32)), .val (.int (1 : Int32)), .val (.int (0 : Int32)), .val (.int x0)] (hb hby own_d_jdk_52_method_21_code_35) rfl rfl rfl ?_
    refine own_iinc X2 hx #[.val (.ref c1), .val (.int (1 : Int32)), .val (.ref b1), .val (.int (1 : Int32)), .val (.int (1 : Int32)), .val (.int (1 : Int32)), .val (.int x0)] (hb hby own_d_jdk_52_method_21_code_38) rfl rfl rfl ?_
    refine own_goto X2 hx (hb hby own_d_jdk_52_method_21_code_41) (by decide) rfl ?_
    refine own_iload X2 hx (hb hby own_d_jdk_52_method_21_code_3) rfl rfl ?_
    refine own_iload X2 hx (hb hby own_d_jdk_52_method_21_code_5) rfl rfl ?_
    refine own_icmpT X2 hx (hb hby own_d_jdk_52_method_21_code_7) (by decide) rfl (by decide) ?_
    refine own_iload X2 hx (hb hby own_d_jdk_52_method_21_code_44) rfl rfl ?_
    exact own_retI X2 hx hlocks hret (hb hby own_d_jdk_52_method_21_code_46) (by decide) (by decide) (by exfalso; rcases HB with hb <;> contradiction)
  · refine own_iload X0 hx (hb hby own_d_jdk_52_method_21_code_23) rfl rfl ?_
    exact own_retI X0 hx hlocks hret (hb hby own_d_jdk_52_method_21_code_25) (by decide) (by decide) ⟨_, rfl, ⟨rfl, hc20_1⟩, N0, by rw [e0]; exact K0⟩
set_option maxRecDepth 65536 in
set_option maxHeartbeats 40000000 in
theorem own_cmpo1 (l : Launch) (Z : State) (a0 : Array Value) (hw : ∀ d ∈ tables_1, d.before a0 Z = true) (c1 : Addr) (kc : ClassId) (x0 : Int32) (h0 : Heap) (n0 : Nat) (O0 : Old Z n0 h0) (SA : Sta Z Z.heap "java/lang/StringUTF16" "$assertionsDisabled" "Z" (.int (1 : Int32))) (SH : Sta Z Z.heap "java/lang/StringUTF16" "HI_BYTE_SHIFT" "I" (.int (0 : Int32))) (SL : Sta Z Z.heap "java/lang/StringUTF16" "LO_BYTE_SHIFT" "I" (.int (8 : Int32))) (hx0 : ¬ x0 < 0 ∧ ¬ (65535 : Int32) < x0) (VC : Arv Z h0 c1 kc .char (1 : Int32) [.int x0] (.int (0 : Int32))) (HB : (255 : Int32) < x0) :
    own_Met l (⟨"java/lang/StringUTF16", "compress", "([CII)[B"⟩ : MethodName) jdk_52_method_16_code 6 (some (.array .byte)) ({ frames := 3, cells := 2, slots := 3, locals := 40 } : Room) Z #[(.ref c1), (.int (0 : Int32)), (.int (1 : Int32))] h0 (fun v h L => ∃ (b : Addr) (k : ClassId), v = some (.ref b) ∧ Fr n0 L ∧ Keep h0 h [] ∧ n0 ≤ b ∧ h0.size ≤ b ∧ Arv Z h b k .byte (2 : Int32) [.int (StrChars.lo8 x0), .int (StrChars.hi8 x0)] (.int (0 : Int32))) := by
  refine own_met (plainFor_of_name own_pn_java_lang_StringUTF16) ?_
  intro p e s m below meth c T0 hx hby hml hZ hown hnm hret hlocks X0 e0 hh0
  have ef : entryFrame m #[(.ref c1), (.int (0 : Int32)), (.int (1 : Int32))] 6 = mkF m 0 #[.val (.ref c1), .val (.int (0 : Int32)), .val (.int (1 : Int32)), .unset, .unset, .unset] [] := by first | (simp [entryFrame, mkF, argsToLocals, Value.category]; done) | rfl
  refine own_entry ef ?_
  have N0 := Fr.nil n0
  have K0 := Keep.refl h0 []
  have Z0 : n0 ≤ h0.size := O0.1 ▸ O0.2.1
  refine own_iloadN X0 hx (hb hby own_d_jdk_52_method_16_code_0) rfl rfl ?_
  refine own_newP X0 hx hZ (aty := .byte) (hw _ (List.mem_of_getElem? (i := 25) rfl)) e0 (hb hby own_d_jdk_52_method_16_code_1) (by decide) 1 (by decide) (by decide) (by decide) (by decide) rfl ?_
  intro T1 h1 b1 k1 X1 e1 g1 E1 V1q
  have g_b1 : n0 ≤ b1 := Nat.le_trans (own_oz O0) (Nat.le_of_eq g1.symm)
  have sz_b1 : h0.size ≤ b1 := Nat.le_trans K0.1 (Nat.le_of_eq g1.symm)
  have K2 := K0.ext E1
  have V1 : Arv Z h1 b1 k1 .byte (1 : Int32) [(.int (0 : Int32))] (.int (0 : Int32)) := Arv.pad V1q (pad_rep [] (.int (0 : Int32)) 1)
  refine own_astoreN X1 hx #[.val (.ref c1), .val (.int (0 : Int32)), .val (.int (1 : Int32)), .val (.ref b1), .unset, .unset] (hb hby own_d_jdk_52_method_16_code_3) rfl rfl rfl ?_
  refine own_aloadN X1 hx (hb hby own_d_jdk_52_method_16_code_4) rfl rfl rfl ?_
  refine own_iloadN X1 hx (hb hby own_d_jdk_52_method_16_code_5) rfl rfl ?_
  refine own_aloadN X1 hx (hb hby own_d_jdk_52_method_16_code_6) rfl rfl rfl ?_
  refine own_iconst X1 hx (0 : Int32) (hb hby own_d_jdk_52_method_16_code_7) (by decide) rfl ?_
  refine own_iloadN X1 hx (hb hby own_d_jdk_52_method_16_code_8) rfl rfl ?_
  have f3 := (O0.ext E1)
  have f4 := (VC.ext E1)
  refine own_static X1 hx hZ (y := (⟨"java/lang/StringUTF16", "compress", "([CI[BII)I"⟩ : MethodName)) hown (hw _ (List.mem_of_getElem? (i := 54) rfl)) (hw _ (List.mem_of_getElem? (i := 55) rfl)) (hw _ (List.mem_of_getElem? (i := 52) rfl)) (hw _ (List.mem_of_getElem? (i := 56) rfl)) (by decide) e1 (by decide) (W := 0) (by decide) (by decide) (by decide) [(.ref c1), (.int (0 : Int32)), (.ref b1), (.int (0 : Int32)), (.int (1 : Int32))] [] (by rw [hml]; rfl) (own_cmpi1 l Z a0 hw c1 _ x0 b1 _ h1 n0 f3 f4 g_b1 V1 HB) own_pd3 rfl rfl rfl (hb hby own_d_jdk_52_method_16_code_9) rfl ?_
  intro v5 T5 L5 X5 hQ5
  obtain ⟨i5, rfl, hi5, Nq5, Kq5⟩ := hQ5
  have N5 := Fr.app N0 Nq5
  have K6 := K2.trans Kq5 (allS (Or.inr sz_b1) all0)
  show own_Ends p e below _ (T5.setTop (mkF m 12 #[.val (.ref c1), .val (.int (0 : Int32)), .val (.int (1 : Int32)), .val (.ref b1), .unset, .unset] [(.int i5)]))
  rcases hi5 with ⟨rfl, hb0⟩
  · refine own_istore X5 hx #[.val (.ref c1), .val (.int (0 : Int32)), .val (.int (1 : Int32)), .val (.ref b1), .val (.int (0 : Int32)), .unset] (hb hby own_d_jdk_52_method_16_code_12) rfl rfl ?_
    refine own_iload X5 hx (hb hby own_d_jdk_52_method_16_code_14) rfl rfl ?_
    refine own_iloadN X5 hx (hb hby own_d_jdk_52_method_16_code_16) rfl rfl ?_
    refine own_icmpF X5 hx (hb hby own_d_jdk_52_method_16_code_17) rfl (by decide) ?_
    refine own_aloadN X5 hx (hb hby own_d_jdk_52_method_16_code_20) rfl rfl rfl ?_
    refine own_iloadN X5 hx (hb hby own_d_jdk_52_method_16_code_21) rfl rfl ?_
    refine own_iloadN X5 hx (hb hby own_d_jdk_52_method_16_code_22) rfl rfl ?_
    have f7 := (f3.keep Kq5 (allS g_b1 all0))
    have f8 := (f4.keep Kq5 (ninS (Nat.ne_of_lt (Nat.lt_of_lt_of_le VC.lt (Nat.le_of_eq g1.symm))) nin0))
    refine own_static X5 hx hZ (y := (⟨"java/lang/StringUTF16", "toBytes", "([CII)[B"⟩ : MethodName)) hown (hw _ (List.mem_of_getElem? (i := 60) rfl)) (hw _ (List.mem_of_getElem? (i := 61) rfl)) (hw _ (List.mem_of_getElem? (i := 52) rfl)) (hw _ (List.mem_of_getElem? (i := 62) rfl)) (by decide) rfl (by decide) (W := 0) (by decide) (by decide) (by decide) [(.ref c1), (.int (0 : Int32)), (.int (1 : Int32))] [] (by rw [hml]; rfl) (own_tob1 l Z a0 hw c1 _ x0 T5.heap n0 f7 SA SH SL f8) own_pd4 rfl rfl rfl (hb hby own_d_jdk_52_method_16_code_23) rfl ?_
    intro v9 T9 L9 X9 hQ9
    obtain ⟨b9, k9, rfl, Nq9, Kq9, g_b9, sz_b9, V9⟩ := hQ9
    have sz_b9 := Nat.le_trans K6.1 sz_b9
    have N9 := Fr.app N5 Nq9
    have K10 := K6.trans Kq9 all0
    show own_Ends p e below _ (T9.setTop (mkF m 26 #[.val (.ref c1), .val (.int (0 : Int32)), .val (.int (1 : Int32)), .val (.ref b1), .val (.int (0 : Int32)), .unset] [(.ref b9)]))
    refine own_astore X9 hx #[.val (.ref c1), .val (.int (0 : Int32)), .val (.int (1 : Int32)), .val (.ref b1), .val (.int (0 : Int32)), .val (.ref b9)] (hb hby own_d_jdk_52_method_16_code_26) rfl rfl rfl ?_
    refine own_aload X9 hx (hb hby own_d_jdk_52_method_16_code_28) rfl rfl rfl ?_
    refine own_iload X9 hx (hb hby own_d_jdk_52_method_16_code_30) rfl rfl ?_
    have f11 := (f7.keep Kq9 all0)
    refine own_static X9 hx hZ (y := (⟨"java/lang/StringUTF16", "getChar", "([BI)C"⟩ : MethodName)) hown (hw _ (List.mem_of_getElem? (i := 76) rfl)) (hw _ (List.mem_of_getElem? (i := 77) rfl)) (hw _ (List.mem_of_getElem? (i := 52) rfl)) (hw _ (List.mem_of_getElem? (i := 78) rfl)) (by decide) rfl (by decide) (W := 0) (by decide) (by decide) (by decide) [(.ref b9), (.int (0 : Int32))] [] (by rw [hml]; rfl) (own_get1_0 l Z a0 hw b9 _ x0 T9.heap n0 f11 SA SH SL hx0 V9) own_pd5 rfl rfl rfl (hb hby own_d_jdk_52_method_16_code_32) rfl ?_
    intro v12 T12 L12 X12 hQ12
    obtain ⟨rfl, Nq12, hh12⟩ := hQ12
    have N12 := Fr.app N9 Nq12
    show own_Ends p e below _ (T12.setTop (mkF m 35 #[.val (.ref c1), .val (.int (0 : Int32)), .val (.int (1 : Int32)), .val (.ref b1), .val (.int (0 : Int32)), .val (.ref b9)] [(.int x0)]))
    refine own_sipush X12 hx (255 : Int32) (hb hby own_d_jdk_52_method_16_code_35) (by decide) rfl ?_
    refine own_icmpT X12 hx (hb hby own_d_jdk_52_method_16_code_38) (by decide) rfl (tlt hb0).2.2.1 ?_
    refine own_aload X12 hx (hb hby own_d_jdk_52_method_16_code_54) rfl rfl rfl ?_
    exact own_retA X12 hx hlocks hret rfl rfl (hb hby own_d_jdk_52_method_16_code_56) (by decide) (by decide) ⟨b9, _, rfl, N12, by rw [hh12]; exact ⟨K10, g_b9, sz_b9, V9⟩⟩
set_option maxRecDepth 65536 in
set_option maxHeartbeats 40000000 in
theorem own_cdr1 (l : Launch) (Z : State) (a0 : Array Value) (hw : ∀ d ∈ tables_1, d.before a0 Z = true) (b1 : Addr) (kb : ClassId) (x0 : Int32) (h0 : Heap) (n0 : Nat) (VB : Arv Z h0 b1 kb .byte (2 : Int32) [.int (StrChars.lo8 x0), .int (StrChars.hi8 x0)] (.int (0 : Int32))) :
    own_Met l (⟨"java/lang/StringUTF16", "coderFromArrayLen", "([BI)B"⟩ : MethodName) jdk_52_method_15_code 2 (some .byte) ({ frames := 0, cells := 0, slots := 0, locals := 0 } : Room) Z #[(.ref b1), (.int (1 : Int32))] h0 (fun v h L => v = some (.int (1 : Int32)) ∧ Fr n0 L ∧ h = h0) := by
  refine own_met (plainFor_of_name own_pn_java_lang_StringUTF16) ?_
  intro p e s m below meth c T0 hx hby hml hZ hown hnm hret hlocks X0 e0 hh0
  have ef : entryFrame m #[(.ref b1), (.int (1 : Int32))] 2 = mkF m 0 #[.val (.ref b1), .val (.int (1 : Int32))] [] := by first | (simp [entryFrame, mkF, argsToLocals, Value.category]; done) | rfl
  refine own_entry ef ?_
  have N0 := Fr.nil n0
  refine own_iloadN X0 hx (hb hby own_d_jdk_52_method_15_code_0) rfl rfl ?_
  refine own_aloadN X0 hx (hb hby own_d_jdk_52_method_15_code_1) rfl rfl rfl ?_
  refine own_arraylength X0 hx hZ e0 VB (hb hby own_d_jdk_52_method_15_code_2) rfl ?_
  refine own_isub X0 hx (hb hby own_d_jdk_52_method_15_code_3) rfl ?_
  rw [show ((1 : Int32) - (2 : Int32)) = (-1 : Int32) from by decide]
  refine own_bipush X0 hx (31 : Int32) (hb hby own_d_jdk_52_method_15_code_4) (by decide) rfl ?_
  refine own_iushr X0 hx (hb hby own_d_jdk_52_method_15_code_6) rfl ?_
  rw [show (own_ushr (-1 : Int32) (31 : Int32)) = (1 : Int32) from by decide]
  refine own_i2b X0 hx (hb hby own_d_jdk_52_method_15_code_7) rfl ?_
  rw [show ((1 : Int32).toInt8.toInt32) = (1 : Int32) from by decide]
  exact own_retN X0 hx hlocks hret (by simp) (hb hby own_d_jdk_52_method_15_code_8) (by decide) (by decide) (by decide) ⟨rfl, N0, e0⟩
set_option maxRecDepth 65536 in
set_option maxHeartbeats 40000000 in
theorem own_wi1 (l : Launch) (Z : State) (a0 : Array Value) (hw : ∀ d ∈ tables_1, d.before a0 Z = true) (a1 : Addr) (zc : Int32) (c1 : Addr) (kc : ClassId) (x0 : Int32) (h0 : Heap) (n0 : Nat) (O0 : Old Z n0 h0) (SC : Sta Z Z.heap "java/lang/String" "COMPACT_STRINGS" "Z" (.int zc)) (hzc : ¬ zc = 0) (SA : Sta Z Z.heap "java/lang/StringUTF16" "$assertionsDisabled" "Z" (.int (1 : Int32))) (SH : Sta Z Z.heap "java/lang/StringUTF16" "HI_BYTE_SHIFT" "I" (.int (0 : Int32))) (SL : Sta Z Z.heap "java/lang/StringUTF16" "LO_BYTE_SHIFT" "I" (.int (8 : Int32))) (hx0 : ¬ x0 < 0 ∧ ¬ (65535 : Int32) < x0) (g_a1 : n0 ≤ a1) (E0 : Exa Z h0 a1 "java/lang/String") (F1 : Fld Z h0 a1 "java/lang/String" "value" "[B" .null) (F2 : Fld Z h0 a1 "java/lang/String" "coder" "B" (.int (0 : Int32))) (VC : Arv Z h0 c1 kc .char (1 : Int32) [.int x0] (.int (0 : Int32))) (HB : (255 : Int32) < x0) :
    own_Met l (⟨"java/lang/String", "<init>", "([CIILjava/lang/Void;)V"⟩ : MethodName) jdk_42_method_149_code 6 none ({ frames := 4, cells := 2, slots := 3, locals := 57 } : Room) Z #[(.ref a1), (.ref c1), (.int (0 : Int32)), (.int (1 : Int32)), .null] h0 (fun v h L => v = none ∧ Fr n0 L ∧ Keep h0 h [a1] ∧ own_Str Z h a1 [x0]) := by
  refine own_met (plainFor_of_name own_pn_java_lang_String) ?_
  intro p e s m below meth c T0 hx hby hml hZ hown hnm hret hlocks X0 e0 hh0
  have ef : entryFrame m #[(.ref a1), (.ref c1), (.int (0 : Int32)), (.int (1 : Int32)), .null] 6 = mkF m 0 #[.val (.ref a1), .val (.ref c1), .val (.int (0 : Int32)), .val (.int (1 : Int32)), .val .null, .unset] [] := by first | (simp [entryFrame, mkF, argsToLocals, Value.category]; done) | rfl
  refine own_entry ef ?_
  have N0 := Fr.nil n0
  have K0 := Keep.refl h0 [a1]
  have Z0 : n0 ≤ h0.size := O0.1 ▸ O0.2.1
  refine own_aloadN X0 hx (hb hby own_d_jdk_42_method_149_code_0) rfl rfl rfl ?_
  refine own_initO X0 hx hZ hown (hw _ (List.mem_of_getElem? (i := 21) rfl)) (hw _ (List.mem_of_getElem? (i := 22) rfl)) (hw _ (List.mem_of_getElem? (i := 23) rfl)) e0 (by rw [hml]; rfl) (hb hby own_d_jdk_42_method_149_code_1) 0 rfl (by decide) (by decide) rfl ?_
  intro T1 X1 e1
  refine own_iloadN X1 hx (hb hby own_d_jdk_42_method_149_code_4) rfl rfl ?_
  refine own_ifT X1 hx (hb hby own_d_jdk_42_method_149_code_5) (by decide) rfl (by decide) ?_
  refine own_getS X1 hx hZ hown (host := "") (Or.inl (hw _ (List.mem_of_getElem? (i := 43) rfl))) Via.refl e1 (SC.ext O0.2) (hb hby own_d_jdk_42_method_149_code_27) rfl ?_
  intro T2 X2 e2
  refine own_ifF X2 hx (hb hby own_d_jdk_42_method_149_code_30) rfl (feq hzc).1 ?_
  refine own_aloadN X2 hx (hb hby own_d_jdk_42_method_149_code_33) rfl rfl rfl ?_
  refine own_iloadN X2 hx (hb hby own_d_jdk_42_method_149_code_34) rfl rfl ?_
  refine own_iloadN X2 hx (hb hby own_d_jdk_42_method_149_code_35) rfl rfl ?_
  refine own_static X2 hx hZ (y := (⟨"java/lang/StringUTF16", "compress", "([CII)[B"⟩ : MethodName)) hown (hw _ (List.mem_of_getElem? (i := 50) rfl)) (hw _ (List.mem_of_getElem? (i := 51) rfl)) (hw _ (List.mem_of_getElem? (i := 52) rfl)) (hw _ (List.mem_of_getElem? (i := 53) rfl)) (by decide) e2 (by decide) (W := 0) (by decide) (by decide) (by decide) [(.ref c1), (.int (0 : Int32)), (.int (1 : Int32))] [] (by rw [hml]; rfl) (own_cmpo1 l Z a0 hw c1 _ x0 h0 n0 O0 SA SH SL hx0 VC HB) own_pd4 rfl rfl rfl (hb hby own_d_jdk_42_method_149_code_36) rfl ?_
  intro v3 T3 L3 X3 hQ3
  obtain ⟨b3, k3, rfl, Nq3, Kq3, g_b3, sz_b3, V3⟩ := hQ3
  have sz_b3 := Nat.le_trans K0.1 sz_b3
  have N3 := Fr.app N0 Nq3
  have K4 := K0.trans Kq3 all0
  show own_Ends p e below _ (T3.setTop (mkF m 39 #[.val (.ref a1), .val (.ref c1), .val (.int (0 : Int32)), .val (.int (1 : Int32)), .val .null, .unset] [(.ref b3)]))
  refine own_astore X3 hx #[.val (.ref a1), .val (.ref c1), .val (.int (0 : Int32)), .val (.int (1 : Int32)), .val .null, .val (.ref b3)] (hb hby own_d_jdk_42_method_149_code_39) rfl rfl rfl ?_
  refine own_aloadN X3 hx (hb hby own_d_jdk_42_method_149_code_41) rfl rfl rfl ?_
  refine own_aload X3 hx (hb hby own_d_jdk_42_method_149_code_42) rfl rfl rfl ?_
  refine own_iloadN X3 hx (hb hby own_d_jdk_42_method_149_code_44) rfl rfl ?_
  refine own_static X3 hx hZ (y := (⟨"java/lang/StringUTF16", "coderFromArrayLen", "([BI)B"⟩ : MethodName)) hown (hw _ (List.mem_of_getElem? (i := 57) rfl)) (hw _ (List.mem_of_getElem? (i := 58) rfl)) (hw _ (List.mem_of_getElem? (i := 52) rfl)) (hw _ (List.mem_of_getElem? (i := 59) rfl)) (by decide) rfl (by decide) (W := 1) (by decide) (by decide) (by decide) [(.ref b3), (.int (1 : Int32))] [(.ref a1)] (by rw [hml]; rfl) (own_cdr1 l Z a0 hw b3 _ x0 T3.heap n0 V3) own_pd6 rfl rfl rfl (hb hby own_d_jdk_42_method_149_code_45) rfl ?_
  intro v5 T5 L5 X5 hQ5
  obtain ⟨rfl, Nq5, hh5⟩ := hQ5
  have N5 := Fr.app N3 Nq5
  show own_Ends p e below _ (T5.setTop (mkF m 48 #[.val (.ref a1), .val (.ref c1), .val (.int (0 : Int32)), .val (.int (1 : Int32)), .val .null, .val (.ref b3)] [(.int (1 : Int32)), (.ref a1)]))
  have f6 := (F2.keep Kq3 nin0)
  have f7 := (E0.keep Kq3)
  refine own_putFN X5 hx hZ hown (hw _ (List.mem_of_getElem? (i := 31) rfl)) Via.refl hh5 (.int (1 : Int32)) f6 f7 (Or.inr ⟨(hw _ (List.mem_of_getElem? (i := 27) rfl)), rfl, hnm⟩) (hw _ (List.mem_of_getElem? (i := 11) rfl)) (ty := .byte) (by decide) rfl rfl N5 g_a1 (hb hby own_d_jdk_42_method_149_code_48) rfl ?_
  intro T8 h8 X8 e8 W8 N8
  have K9 := K4.wr W8 (Or.inl (List.mem_of_getElem? (i := 0) rfl))
  have f10 := f6.same W8
  refine own_aloadN X8 hx (hb hby own_d_jdk_42_method_149_code_51) rfl rfl rfl ?_
  refine own_aload X8 hx (hb hby own_d_jdk_42_method_149_code_52) rfl rfl rfl ?_
  have f11 := ((F1.keep Kq3 nin0).other W8 (Or.inr (slot_ne (Or.inr (hw _ (List.mem_of_getElem? (i := 26) rfl))) (Or.inr (hw _ (List.mem_of_getElem? (i := 27) rfl))) (by decide) (t := (.array .byte)) (t' := .byte) (by decide) (by decide))))
  have f12 := (f7.wr W8)
  refine own_putF X8 hx hZ hown (host := "") (Or.inl (hw _ (List.mem_of_getElem? (i := 30) rfl))) Via.refl e8 f11 f12 (Or.inr ⟨(hw _ (List.mem_of_getElem? (i := 26) rfl)), rfl, hnm⟩) (hw _ (List.mem_of_getElem? (i := 11) rfl)) (ty := (.array .byte)) (by decide) rfl rfl N8 g_a1 (hb hby own_d_jdk_42_method_149_code_54) rfl ?_
  intro T13 h13 X13 e13 W13 N13
  have K14 := K9.wr W13 (Or.inl (List.mem_of_getElem? (i := 0) rfl))
  have f15 := f11.same W13
  have f16 := (f12.wr W13)
  have f17 := (f10.other W13 (Or.inr (slot_ne (Or.inr (hw _ (List.mem_of_getElem? (i := 27) rfl))) (Or.inr (hw _ (List.mem_of_getElem? (i := 26) rfl))) (by decide) (t := .byte) (t' := (.array .byte)) (by decide) (by decide))))
  have f18 := ((V3.other W8 (Ne.symm (Exa.neArv f7 V3 (hw _ (List.mem_of_getElem? (i := 11) rfl))))).other W13 (Ne.symm (Exa.neArv f7 V3 (hw _ (List.mem_of_getElem? (i := 11) rfl)))))
  exact own_ret X13 hx hlocks hret (hb hby own_d_jdk_42_method_149_code_57) (by decide) (by decide) ⟨rfl, N13, by rw [e13]; exact ⟨K14, _, _, _, _, _, f16, f15, f17, f18, Or.inr ⟨rfl, rfl, rfl, ⟨x0, List.mem_of_getElem? (i := 0) rfl, HB⟩⟩, (own_c2 hx0 own_c0), (Nat.le_of_ble_eq_true rfl)⟩⟩
set_option maxRecDepth 65536 in
set_option maxHeartbeats 40000000 in
theorem own_wd1 (l : Launch) (Z : State) (a0 : Array Value) (hw : ∀ d ∈ tables_1, d.before a0 Z = true) (a1 : Addr) (zc : Int32) (c1 : Addr) (kc : ClassId) (x0 : Int32) (h0 : Heap) (n0 : Nat) (O0 : Old Z n0 h0) (SC : Sta Z Z.heap "java/lang/String" "COMPACT_STRINGS" "Z" (.int zc)) (hzc : ¬ zc = 0) (SA : Sta Z Z.heap "java/lang/StringUTF16" "$assertionsDisabled" "Z" (.int (1 : Int32))) (SH : Sta Z Z.heap "java/lang/StringUTF16" "HI_BYTE_SHIFT" "I" (.int (0 : Int32))) (SL : Sta Z Z.heap "java/lang/StringUTF16" "LO_BYTE_SHIFT" "I" (.int (8 : Int32))) (hx0 : ¬ x0 < 0 ∧ ¬ (65535 : Int32) < x0) (g_a1 : n0 ≤ a1) (E0 : Exa Z h0 a1 "java/lang/String") (F1 : Fld Z h0 a1 "java/lang/String" "value" "[B" .null) (F2 : Fld Z h0 a1 "java/lang/String" "coder" "B" (.int (0 : Int32))) (VC : Arv Z h0 c1 kc .char (1 : Int32) [.int x0] (.int (0 : Int32))) (HB : (255 : Int32) < x0) :
    own_Met l (⟨"java/lang/String", "<init>", "([C)V"⟩ : MethodName) jdk_42_method_3_code 2 none ({ frames := 5, cells := 2, slots := 3, locals := 74 } : Room) Z #[(.ref a1), (.ref c1)] h0 (fun v h L => v = none ∧ Fr n0 L ∧ Keep h0 h [a1] ∧ own_Str Z h a1 [x0]) := by
  refine own_met (plainFor_of_name own_pn_java_lang_String) ?_
  intro p e s m below meth c T0 hx hby hml hZ hown hnm hret hlocks X0 e0 hh0
  have ef : entryFrame m #[(.ref a1), (.ref c1)] 2 = mkF m 0 #[.val (.ref a1), .val (.ref c1)] [] := by first | (simp [entryFrame, mkF, argsToLocals, Value.category]; done) | rfl
  refine own_entry ef ?_
  have N0 := Fr.nil n0
  have K0 := Keep.refl h0 [a1]
  have Z0 : n0 ≤ h0.size := O0.1 ▸ O0.2.1
  refine own_aloadN X0 hx (hb hby own_d_jdk_42_method_3_code_0) rfl rfl rfl ?_
  refine own_aloadN X0 hx (hb hby own_d_jdk_42_method_3_code_1) rfl rfl rfl ?_
  refine own_iconst X0 hx (0 : Int32) (hb hby own_d_jdk_42_method_3_code_2) (by decide) rfl ?_
  refine own_aloadN X0 hx (hb hby own_d_jdk_42_method_3_code_3) rfl rfl rfl ?_
  refine own_arraylength X0 hx hZ e0 VC (hb hby own_d_jdk_42_method_3_code_4) rfl ?_
  refine own_aconst_null X0 hx (hb hby own_d_jdk_42_method_3_code_5) rfl ?_
  refine own_special X0 hx hZ (y := (⟨"java/lang/String", "<init>", "([CIILjava/lang/Void;)V"⟩ : MethodName)) rfl hown (hw _ (List.mem_of_getElem? (i := 17) rfl)) (hw _ (List.mem_of_getElem? (i := 18) rfl)) (hw _ (List.mem_of_getElem? (i := 12) rfl)) (hw _ (List.mem_of_getElem? (i := 20) rfl)) (by decide) e0 (by decide) (W := 0) (by decide) (by decide) (by decide) [(.ref c1), (.int (0 : Int32)), (.int (1 : Int32)), .null] [] (by rw [hml]; rfl) (a := a1) (own_wi1 l Z a0 hw a1 zc c1 _ x0 h0 n0 O0 SC hzc SA SH SL hx0 g_a1 E0 F1 F2 VC HB) own_pd7 rfl rfl rfl (hb hby own_d_jdk_42_method_3_code_6) rfl ?_
  intro v1 T1 L1 X1 hQ1
  obtain ⟨rfl, Nq1, Kq1, Ss1⟩ := hQ1
  have N1 := Fr.app N0 Nq1
  have K2 := K0.trans Kq1 (allS (Or.inl (List.mem_of_getElem? (i := 0) rfl)) all0)
  show own_Ends p e below _ (T1.setTop (mkF m 9 #[.val (.ref a1), .val (.ref c1)] []))
  exact own_ret X1 hx hlocks hret (hb hby own_d_jdk_42_method_3_code_9) (by decide) (by decide) ⟨rfl, N1, K2, Ss1⟩
theorem own_wideOr1 (x0 : Int32) : (¬ (255 : Int32) < x0) ∨ ((255 : Int32) < x0) := by
  by_cases hb0 : (255 : Int32) < x0
  · exact Or.inr (hb0)
  exact Or.inl hb0
set_option maxRecDepth 65536 in
set_option maxHeartbeats 40000000 in
theorem own_nbl2 (l : Launch) (Z : State) (a0 : Array Value) (hw : ∀ d ∈ tables_1, d.before a0 Z = true)  (h0 : Heap) (n0 : Nat)  :
    own_Met l (⟨"java/lang/StringUTF16", "newBytesLength", "(I)I"⟩ : MethodName) jdk_52_method_3_code 1 (some .int) ({ frames := 0, cells := 0, slots := 0, locals := 0 } : Room) Z #[(.int (2 : Int32))] h0 (fun v h L => v = some (.int (4 : Int32)) ∧ Fr n0 L ∧ h = h0) := by
  refine own_met (plainFor_of_name own_pn_java_lang_StringUTF16) ?_
  intro p e s m below meth c T0 hx hby hml hZ hown hnm hret hlocks X0 e0 hh0
  have ef : entryFrame m #[(.int (2 : Int32))] 1 = mkF m 0 #[.val (.int (2 : Int32))] [] := by first | (simp [entryFrame, mkF, argsToLocals, Value.category]; done) | rfl
  refine own_entry ef ?_
  have N0 := Fr.nil n0
  refine own_iloadN X0 hx (hb hby own_d_jdk_52_method_3_code_0) rfl rfl ?_
  refine own_ifT X0 hx (hb hby own_d_jdk_52_method_3_code_1) (by decide) rfl (by decide) ?_
  refine own_iloadN X0 hx (hb hby own_d_jdk_52_method_3_code_12) rfl rfl ?_
  refine own_ldcInt X0 hx hZ hown (hw _ (List.mem_of_getElem? (i := 69) rfl)) (hb hby own_d_jdk_52_method_3_code_13) rfl ?_
  refine own_icmpT X0 hx (hb hby own_d_jdk_52_method_3_code_15) (by decide) rfl (by decide) ?_
  refine own_iloadN X0 hx (hb hby own_d_jdk_52_method_3_code_55) rfl rfl ?_
  refine own_iconst X0 hx (1 : Int32) (hb hby own_d_jdk_52_method_3_code_56) (by decide) rfl ?_
  refine own_ishl X0 hx (hb hby own_d_jdk_52_method_3_code_57) rfl ?_
  rw [show ((2 : Int32) <<< ((1 : Int32) &&& 31)) = (4 : Int32) from by decide]
  exact own_retI X0 hx hlocks hret (hb hby own_d_jdk_52_method_3_code_58) (by decide) (by decide) ⟨rfl, N0, e0⟩
set_option maxRecDepth 65536 in
set_option maxHeartbeats 40000000 in
theorem own_nbf2 (l : Launch) (Z : State) (a0 : Array Value) (hw : ∀ d ∈ tables_1, d.before a0 Z = true)  (h0 : Heap) (n0 : Nat) (O0 : Old Z n0 h0) :
    own_Met l (⟨"java/lang/StringUTF16", "newBytesFor", "(I)[B"⟩ : MethodName) jdk_52_method_2_code 1 (some (.array .byte)) ({ frames := 1, cells := 1, slots := 4, locals := 12 } : Room) Z #[(.int (2 : Int32))] h0 (fun v h L => ∃ (b : Addr) (k : ClassId), v = some (.ref b) ∧ Fr n0 L ∧ Keep h0 h [] ∧ n0 ≤ b ∧ h0.size ≤ b ∧ Arv Z h b k .byte (4 : Int32) [.int (0 : Int32), .int (0 : Int32), .int (0 : Int32), .int (0 : Int32)] (.int (0 : Int32))) := by
  refine own_met (plainFor_of_name own_pn_java_lang_StringUTF16) ?_
  intro p e s m below meth c T0 hx hby hml hZ hown hnm hret hlocks X0 e0 hh0
  have ef : entryFrame m #[(.int (2 : Int32))] 1 = mkF m 0 #[.val (.int (2 : Int32))] [] := by first | (simp [entryFrame, mkF, argsToLocals, Value.category]; done) | rfl
  refine own_entry ef ?_
  have N0 := Fr.nil n0
  have K0 := Keep.refl h0 []
  have Z0 : n0 ≤ h0.size := O0.1 ▸ O0.2.1
  refine own_iloadN X0 hx (hb hby own_d_jdk_52_method_2_code_0) rfl rfl ?_
  refine own_static X0 hx hZ (y := (⟨"java/lang/StringUTF16", "newBytesLength", "(I)I"⟩ : MethodName)) hown (hw _ (List.mem_of_getElem? (i := 66) rfl)) (hw _ (List.mem_of_getElem? (i := 67) rfl)) (hw _ (List.mem_of_getElem? (i := 52) rfl)) (hw _ (List.mem_of_getElem? (i := 68) rfl)) (by decide) e0 (by decide) (W := 0) (by decide) (by decide) (by decide) [(.int (2 : Int32))] [] (by rw [hml]; rfl) (own_nbl2 l Z a0 hw h0 n0) own_pd0 rfl rfl rfl (hb hby own_d_jdk_52_method_2_code_1) rfl ?_
  intro v1 T1 L1 X1 hQ1
  obtain ⟨rfl, Nq1, hh1⟩ := hQ1
  have N1 := Fr.app N0 Nq1
  show own_Ends p e below _ (T1.setTop (mkF m 4 #[.val (.int (2 : Int32))] [(.int (4 : Int32))]))
  refine own_newP X1 hx hZ (aty := .byte) (hw _ (List.mem_of_getElem? (i := 25) rfl)) hh1 (hb hby own_d_jdk_52_method_2_code_4) (by decide) 4 (by decide) (by decide) (by decide) (by decide) rfl ?_
  intro T2 h2 b2 k2 X2 e2 g2 E2 V2q
  have g_b2 : n0 ≤ b2 := Nat.le_trans (own_oz O0) (Nat.le_of_eq g2.symm)
  have sz_b2 : h0.size ≤ b2 := Nat.le_trans K0.1 (Nat.le_of_eq g2.symm)
  have K3 := K0.ext E2
  have V2 : Arv Z h2 b2 k2 .byte (4 : Int32) [(.int (0 : Int32)), (.int (0 : Int32)), (.int (0 : Int32)), (.int (0 : Int32))] (.int (0 : Int32)) := Arv.pad V2q (pad_rep [] (.int (0 : Int32)) 4)
  exact own_retA X2 hx hlocks hret rfl rfl (hb hby own_d_jdk_52_method_2_code_6) (by decide) (by decide) ⟨b2, _, rfl, N1, by rw [e2]; exact ⟨K3, g_b2, sz_b2, V2⟩⟩
set_option maxRecDepth 65536 in
set_option maxHeartbeats 40000000 in
theorem own_put2_0 (l : Launch) (Z : State) (a0 : Array Value) (hw : ∀ d ∈ tables_1, d.before a0 Z = true) (b1 : Addr) (kb : ClassId) (ch y0 y1 y2 y3 : Int32) (h0 : Heap) (n0 : Nat) (O0 : Old Z n0 h0) (SA : Sta Z Z.heap "java/lang/StringUTF16" "$assertionsDisabled" "Z" (.int (1 : Int32))) (SH : Sta Z Z.heap "java/lang/StringUTF16" "HI_BYTE_SHIFT" "I" (.int (0 : Int32))) (SL : Sta Z Z.heap "java/lang/StringUTF16" "LO_BYTE_SHIFT" "I" (.int (8 : Int32))) (g_b1 : n0 ≤ b1) (V0 : Arv Z h0 b1 kb .byte (4 : Int32) [.int y0, .int y1, .int y2, .int y3] (.int (0 : Int32))) :
    own_Met l (⟨"java/lang/StringUTF16", "putChar", "([BII)V"⟩ : MethodName) jdk_52_method_4_code 3 none ({ frames := 0, cells := 0, slots := 0, locals := 0 } : Room) Z #[(.ref b1), (.int (0 : Int32)), (.int ch)] h0 (fun v h L => v = none ∧ Fr n0 L ∧ Keep h0 h [b1] ∧ Arv Z h b1 kb .byte (4 : Int32) [.int (StrChars.lo8 ch), .int (StrChars.hi8 ch), .int y2, .int y3] (.int (0 : Int32))) := by
  refine own_met (plainFor_of_name own_pn_java_lang_StringUTF16) ?_
  intro p e s m below meth c T0 hx hby hml hZ hown hnm hret hlocks X0 e0 hh0
  have ef : entryFrame m #[(.ref b1), (.int (0 : Int32)), (.int ch)] 3 = mkF m 0 #[.val (.ref b1), .val (.int (0 : Int32)), .val (.int ch)] [] := by first | (simp [entryFrame, mkF, argsToLocals, Value.category]; done) | rfl
  refine own_entry ef ?_
  have N0 := Fr.nil n0
  have K0 := Keep.refl h0 [b1]
  have Z0 : n0 ≤ h0.size := O0.1 ▸ O0.2.1
  refine own_getS X0 hx hZ hown (host := "") (Or.inl (hw _ (List.mem_of_getElem? (i := 73) rfl))) Via.refl e0 (SA.ext O0.2) (hb hby own_d_jdk_52_method_4_code_0) rfl ?_
  intro T1 X1 e1
  refine own_ifT X1 hx (hb hby own_d_jdk_52_method_4_code_3) (by decide) rfl (by decide) ?_
  refine own_iloadN X1 hx (hb hby own_d_jdk_52_method_4_code_28) rfl rfl ?_
  refine own_iconst X1 hx (1 : Int32) (hb hby own_d_jdk_52_method_4_code_29) (by decide) rfl ?_
  refine own_ishl X1 hx (hb hby own_d_jdk_52_method_4_code_30) rfl ?_
  rw [show ((0 : Int32) <<< ((1 : Int32) &&& 31)) = (0 : Int32) from by decide]
  refine own_istoreN X1 hx #[.val (.ref b1), .val (.int (0 : Int32)), .val (.int ch)] (hb hby own_d_jdk_52_method_4_code_31) rfl rfl ?_
  refine own_aloadN X1 hx (hb hby own_d_jdk_52_method_4_code_32) rfl rfl rfl ?_
  refine own_iloadN X1 hx (hb hby own_d_jdk_52_method_4_code_33) rfl rfl ?_
  refine own_iinc X1 hx #[.val (.ref b1), .val (.int (1 : Int32)), .val (.int ch)] (hb hby own_d_jdk_52_method_4_code_34) rfl rfl rfl ?_
  refine own_iloadN X1 hx (hb hby own_d_jdk_52_method_4_code_37) rfl rfl ?_
  refine own_getS X1 hx hZ hown (host := "") (Or.inl (hw _ (List.mem_of_getElem? (i := 74) rfl))) Via.refl e1 (SH.ext O0.2) (hb hby own_d_jdk_52_method_4_code_38) rfl ?_
  intro T2 X2 e2
  refine own_ishr X2 hx (hb hby own_d_jdk_52_method_4_code_41) rfl ?_
  refine own_i2b X2 hx (hb hby own_d_jdk_52_method_4_code_42) rfl ?_
  rw [show ((ch >>> ((0 : Int32) &&& 31)).toInt8.toInt32) = (StrChars.lo8 ch) from own_lo0 ch]
  refine own_stB X2 hx hZ e2 V0 ⟨by decide, by decide⟩ 0 rfl (Nat.le_of_ble_eq_true rfl) (own_lo8L ch) N0 g_b1 (hb hby own_d_jdk_52_method_4_code_43) rfl ?_
  intro T3 h3 X3 e3 W3 N3 V3
  have K4 := K0.wr W3 (Or.inl (List.mem_of_getElem? (i := 0) rfl))
  refine own_aloadN X3 hx (hb hby own_d_jdk_52_method_4_code_44) rfl rfl rfl ?_
  refine own_iloadN X3 hx (hb hby own_d_jdk_52_method_4_code_45) rfl rfl ?_
  refine own_iloadN X3 hx (hb hby own_d_jdk_52_method_4_code_46) rfl rfl ?_
  have f5 := (O0.wr W3 g_b1)
  refine own_getS X3 hx hZ hown (host := "") (Or.inl (hw _ (List.mem_of_getElem? (i := 75) rfl))) Via.refl e3 (SL.ext f5.2) (hb hby own_d_jdk_52_method_4_code_47) rfl ?_
  intro T6 X6 e6
  refine own_ishr X6 hx (hb hby own_d_jdk_52_method_4_code_50) rfl ?_
  refine own_i2b X6 hx (hb hby own_d_jdk_52_method_4_code_51) rfl ?_
  rw [show ((ch >>> ((8 : Int32) &&& 31)).toInt8.toInt32) = (StrChars.hi8 ch) from rfl]
  refine own_stB X6 hx hZ e6 V3 ⟨by decide, by decide⟩ 1 rfl (Nat.le_of_ble_eq_true rfl) (own_lo8H ch) N3 g_b1 (hb hby own_d_jdk_52_method_4_code_52) rfl ?_
  intro T7 h7 X7 e7 W7 N7 V7
  have K8 := K4.wr W7 (Or.inl (List.mem_of_getElem? (i := 0) rfl))
  exact own_ret X7 hx hlocks hret (hb hby own_d_jdk_52_method_4_code_53) (by decide) (by decide) ⟨rfl, N7, by rw [e7]; exact ⟨K8, V7⟩⟩
set_option maxRecDepth 65536 in
set_option maxHeartbeats 40000000 in
theorem own_get2_0 (l : Launch) (Z : State) (a0 : Array Value) (hw : ∀ d ∈ tables_1, d.before a0 Z = true) (b1 : Addr) (kb : ClassId) (x0 x1 : Int32) (h0 : Heap) (n0 : Nat) (O0 : Old Z n0 h0) (SA : Sta Z Z.heap "java/lang/StringUTF16" "$assertionsDisabled" "Z" (.int (1 : Int32))) (SH : Sta Z Z.heap "java/lang/StringUTF16" "HI_BYTE_SHIFT" "I" (.int (0 : Int32))) (SL : Sta Z Z.heap "java/lang/StringUTF16" "LO_BYTE_SHIFT" "I" (.int (8 : Int32))) (hx0 : ¬ x0 < 0 ∧ ¬ (65535 : Int32) < x0) (hx1 : ¬ x1 < 0 ∧ ¬ (65535 : Int32) < x1) (V0 : Arv Z h0 b1 kb .byte (4 : Int32) [.int (StrChars.lo8 x0), .int (StrChars.hi8 x0), .int (StrChars.lo8 x1), .int (StrChars.hi8 x1)] (.int (0 : Int32))) :
    own_Met l (⟨"java/lang/StringUTF16", "getChar", "([BI)C"⟩ : MethodName) jdk_52_method_5_code 2 (some .char) ({ frames := 0, cells := 0, slots := 0, locals := 0 } : Room) Z #[(.ref b1), (.int (0 : Int32))] h0 (fun v h L => v = some (.int x0) ∧ Fr n0 L ∧ h = h0) := by
  refine own_met (plainFor_of_name own_pn_java_lang_StringUTF16) ?_
  intro p e s m below meth c T0 hx hby hml hZ hown hnm hret hlocks X0 e0 hh0
  have ef : entryFrame m #[(.ref b1), (.int (0 : Int32))] 2 = mkF m 0 #[.val (.ref b1), .val (.int (0 : Int32))] [] := by first | (simp [entryFrame, mkF, argsToLocals, Value.category]; done) | rfl
  refine own_entry ef ?_
  have N0 := Fr.nil n0
  have K0 := Keep.refl h0 []
  have Z0 : n0 ≤ h0.size := O0.1 ▸ O0.2.1
  refine own_getS X0 hx hZ hown (host := "") (Or.inl (hw _ (List.mem_of_getElem? (i := 73) rfl))) Via.refl e0 (SA.ext O0.2) (hb hby own_d_jdk_52_method_5_code_0) rfl ?_
  intro T1 X1 e1
  refine own_ifT X1 hx (hb hby own_d_jdk_52_method_5_code_3) (by decide) rfl (by decide) ?_
  refine own_iloadN X1 hx (hb hby own_d_jdk_52_method_5_code_28) rfl rfl ?_
  refine own_iconst X1 hx (1 : Int32) (hb hby own_d_jdk_52_method_5_code_29) (by decide) rfl ?_
  refine own_ishl X1 hx (hb hby own_d_jdk_52_method_5_code_30) rfl ?_
  rw [show ((0 : Int32) <<< ((1 : Int32) &&& 31)) = (0 : Int32) from by decide]
  refine own_istoreN X1 hx #[.val (.ref b1), .val (.int (0 : Int32))] (hb hby own_d_jdk_52_method_5_code_31) rfl rfl ?_
  refine own_aloadN X1 hx (hb hby own_d_jdk_52_method_5_code_32) rfl rfl rfl ?_
  refine own_iloadN X1 hx (hb hby own_d_jdk_52_method_5_code_33) rfl rfl ?_
  refine own_iinc X1 hx #[.val (.ref b1), .val (.int (1 : Int32))] (hb hby own_d_jdk_52_method_5_code_34) rfl rfl rfl ?_
  refine own_baloadBytes X1 hx hZ e1 V0 ⟨by decide, by decide⟩ rfl (hb hby own_d_jdk_52_method_5_code_37) rfl ?_
  refine own_sipush X1 hx (255 : Int32) (hb hby own_d_jdk_52_method_5_code_38) (by decide) rfl ?_
  refine own_iand X1 hx (hb hby own_d_jdk_52_method_5_code_41) rfl ?_
  refine own_getS X1 hx hZ hown (host := "") (Or.inl (hw _ (List.mem_of_getElem? (i := 74) rfl))) Via.refl e1 (SH.ext O0.2) (hb hby own_d_jdk_52_method_5_code_42) rfl ?_
  intro T2 X2 e2
  refine own_ishl X2 hx (hb hby own_d_jdk_52_method_5_code_45) rfl ?_
  refine own_aloadN X2 hx (hb hby own_d_jdk_52_method_5_code_46) rfl rfl rfl ?_
  refine own_iloadN X2 hx (hb hby own_d_jdk_52_method_5_code_47) rfl rfl ?_
  refine own_baloadBytes X2 hx hZ e2 V0 ⟨by decide, by decide⟩ rfl (hb hby own_d_jdk_52_method_5_code_48) rfl ?_
  refine own_sipush X2 hx (255 : Int32) (hb hby own_d_jdk_52_method_5_code_49) (by decide) rfl ?_
  refine own_iand X2 hx (hb hby own_d_jdk_52_method_5_code_52) rfl ?_
  refine own_getS X2 hx hZ hown (host := "") (Or.inl (hw _ (List.mem_of_getElem? (i := 75) rfl))) Via.refl e2 (SL.ext O0.2) (hb hby own_d_jdk_52_method_5_code_53) rfl ?_
  intro T3 X3 e3
  refine own_ishl X3 hx (hb hby own_d_jdk_52_method_5_code_56) rfl ?_
  refine own_ior X3 hx (hb hby own_d_jdk_52_method_5_code_57) rfl ?_
  refine own_i2c X3 hx (hb hby own_d_jdk_52_method_5_code_58) rfl ?_
  rw [show (((((StrChars.lo8 x0) &&& (255 : Int32)) <<< ((0 : Int32) &&& 31)) ||| (((StrChars.hi8 x0) &&& (255 : Int32)) <<< ((8 : Int32) &&& 31))).toUInt32.toUInt16.toUInt32.toInt32) = x0 from StrChars.pair_says hx0.1 hx0.2]
  exact own_retN X3 hx hlocks hret (by simp) (hb hby own_d_jdk_52_method_5_code_59) (by decide) (by decide) (own_narC2 hx0) ⟨rfl, N0, e3⟩
set_option maxRecDepth 65536 in
set_option maxHeartbeats 40000000 in
theorem own_put2_1 (l : Launch) (Z : State) (a0 : Array Value) (hw : ∀ d ∈ tables_1, d.before a0 Z = true) (b1 : Addr) (kb : ClassId) (ch y0 y1 y2 y3 : Int32) (h0 : Heap) (n0 : Nat) (O0 : Old Z n0 h0) (SA : Sta Z Z.heap "java/lang/StringUTF16" "$assertionsDisabled" "Z" (.int (1 : Int32))) (SH : Sta Z Z.heap "java/lang/StringUTF16" "HI_BYTE_SHIFT" "I" (.int (0 : Int32))) (SL : Sta Z Z.heap "java/lang/StringUTF16" "LO_BYTE_SHIFT" "I" (.int (8 : Int32))) (g_b1 : n0 ≤ b1) (V0 : Arv Z h0 b1 kb .byte (4 : Int32) [.int y0, .int y1, .int y2, .int y3] (.int (0 : Int32))) :
    own_Met l (⟨"java/lang/StringUTF16", "putChar", "([BII)V"⟩ : MethodName) jdk_52_method_4_code 3 none ({ frames := 0, cells := 0, slots := 0, locals := 0 } : Room) Z #[(.ref b1), (.int (1 : Int32)), (.int ch)] h0 (fun v h L => v = none ∧ Fr n0 L ∧ Keep h0 h [b1] ∧ Arv Z h b1 kb .byte (4 : Int32) [.int y0, .int y1, .int (StrChars.lo8 ch), .int (StrChars.hi8 ch)] (.int (0 : Int32))) := by
  refine own_met (plainFor_of_name own_pn_java_lang_StringUTF16) ?_
  intro p e s m below meth c T0 hx hby hml hZ hown hnm hret hlocks X0 e0 hh0
  have ef : entryFrame m #[(.ref b1), (.int (1 : Int32)), (.int ch)] 3 = mkF m 0 #[.val (.ref b1), .val (.int (1 : Int32)), .val (.int ch)] [] := by first | (simp [entryFrame, mkF, argsToLocals, Value.category]; done) | rfl
  refine own_entry ef ?_
  have N0 := Fr.nil n0
  have K0 := Keep.refl h0 [b1]
  have Z0 : n0 ≤ h0.size := O0.1 ▸ O0.2.1
  refine own_getS X0 hx hZ hown (host := "") (Or.inl (hw _ (List.mem_of_getElem? (i := 73) rfl))) Via.refl e0 (SA.ext O0.2) (hb hby own_d_jdk_52_method_4_code_0) rfl ?_
  intro T1 X1 e1
  refine own_ifT X1 hx (hb hby own_d_jdk_52_method_4_code_3) (by decide) rfl (by decide) ?_
  refine own_iloadN X1 hx (hb hby own_d_jdk_52_method_4_code_28) rfl rfl ?_
  refine own_iconst X1 hx (1 : Int32) (hb hby own_d_jdk_52_method_4_code_29) (by decide) rfl ?_
  refine own_ishl X1 hx (hb hby own_d_jdk_52_method_4_code_30) rfl ?_
  rw [show ((1 : Int32) <<< ((1 : Int32) &&& 31)) = (2 : Int32) from by decide]
  refine own_istoreN X1 hx #[.val (.ref b1), .val (.int (2 : Int32)), .val (.int ch)] (hb hby own_d_jdk_52_method_4_code_31) rfl rfl ?_
  refine own_aloadN X1 hx (hb hby own_d_jdk_52_method_4_code_32) rfl rfl rfl ?_
  refine own_iloadN X1 hx (hb hby own_d_jdk_52_method_4_code_33) rfl rfl ?_
  refine own_iinc X1 hx #[.val (.ref b1), .val (.int (3 : Int32)), .val (.int ch)] (hb hby own_d_jdk_52_method_4_code_34) rfl rfl rfl ?_
  refine own_iloadN X1 hx (hb hby own_d_jdk_52_method_4_code_37) rfl rfl ?_
  refine own_getS X1 hx hZ hown (host := "") (Or.inl (hw _ (List.mem_of_getElem? (i := 74) rfl))) Via.refl e1 (SH.ext O0.2) (hb hby own_d_jdk_52_method_4_code_38) rfl ?_
  intro T2 X2 e2
  refine own_ishr X2 hx (hb hby own_d_jdk_52_method_4_code_41) rfl ?_
  refine own_i2b X2 hx (hb hby own_d_jdk_52_method_4_code_42) rfl ?_
  rw [show ((ch >>> ((0 : Int32) &&& 31)).toInt8.toInt32) = (StrChars.lo8 ch) from own_lo0 ch]
  refine own_stB X2 hx hZ e2 V0 ⟨by decide, by decide⟩ 2 rfl (Nat.le_of_ble_eq_true rfl) (own_lo8L ch) N0 g_b1 (hb hby own_d_jdk_52_method_4_code_43) rfl ?_
  intro T3 h3 X3 e3 W3 N3 V3
  have K4 := K0.wr W3 (Or.inl (List.mem_of_getElem? (i := 0) rfl))
  refine own_aloadN X3 hx (hb hby own_d_jdk_52_method_4_code_44) rfl rfl rfl ?_
  refine own_iloadN X3 hx (hb hby own_d_jdk_52_method_4_code_45) rfl rfl ?_
  refine own_iloadN X3 hx (hb hby own_d_jdk_52_method_4_code_46) rfl rfl ?_
  have f5 := (O0.wr W3 g_b1)
  refine own_getS X3 hx hZ hown (host := "") (Or.inl (hw _ (List.mem_of_getElem? (i := 75) rfl))) Via.refl e3 (SL.ext f5.2) (hb hby own_d_jdk_52_method_4_code_47) rfl ?_
  intro T6 X6 e6
  refine own_ishr X6 hx (hb hby own_d_jdk_52_method_4_code_50) rfl ?_
  refine own_i2b X6 hx (hb hby own_d_jdk_52_method_4_code_51) rfl ?_
  rw [show ((ch >>> ((8 : Int32) &&& 31)).toInt8.toInt32) = (StrChars.hi8 ch) from rfl]
  refine own_stB X6 hx hZ e6 V3 ⟨by decide, by decide⟩ 3 rfl (Nat.le_of_ble_eq_true rfl) (own_lo8H ch) N3 g_b1 (hb hby own_d_jdk_52_method_4_code_52) rfl ?_
  intro T7 h7 X7 e7 W7 N7 V7
  have K8 := K4.wr W7 (Or.inl (List.mem_of_getElem? (i := 0) rfl))
  exact own_ret X7 hx hlocks hret (hb hby own_d_jdk_52_method_4_code_53) (by decide) (by decide) ⟨rfl, N7, by rw [e7]; exact ⟨K8, V7⟩⟩
set_option maxRecDepth 65536 in
set_option maxHeartbeats 40000000 in
theorem own_get2_1 (l : Launch) (Z : State) (a0 : Array Value) (hw : ∀ d ∈ tables_1, d.before a0 Z = true) (b1 : Addr) (kb : ClassId) (x0 x1 : Int32) (h0 : Heap) (n0 : Nat) (O0 : Old Z n0 h0) (SA : Sta Z Z.heap "java/lang/StringUTF16" "$assertionsDisabled" "Z" (.int (1 : Int32))) (SH : Sta Z Z.heap "java/lang/StringUTF16" "HI_BYTE_SHIFT" "I" (.int (0 : Int32))) (SL : Sta Z Z.heap "java/lang/StringUTF16" "LO_BYTE_SHIFT" "I" (.int (8 : Int32))) (hx0 : ¬ x0 < 0 ∧ ¬ (65535 : Int32) < x0) (hx1 : ¬ x1 < 0 ∧ ¬ (65535 : Int32) < x1) (V0 : Arv Z h0 b1 kb .byte (4 : Int32) [.int (StrChars.lo8 x0), .int (StrChars.hi8 x0), .int (StrChars.lo8 x1), .int (StrChars.hi8 x1)] (.int (0 : Int32))) :
    own_Met l (⟨"java/lang/StringUTF16", "getChar", "([BI)C"⟩ : MethodName) jdk_52_method_5_code 2 (some .char) ({ frames := 0, cells := 0, slots := 0, locals := 0 } : Room) Z #[(.ref b1), (.int (1 : Int32))] h0 (fun v h L => v = some (.int x1) ∧ Fr n0 L ∧ h = h0) := by
  refine own_met (plainFor_of_name own_pn_java_lang_StringUTF16) ?_
  intro p e s m below meth c T0 hx hby hml hZ hown hnm hret hlocks X0 e0 hh0
  have ef : entryFrame m #[(.ref b1), (.int (1 : Int32))] 2 = mkF m 0 #[.val (.ref b1), .val (.int (1 : Int32))] [] := by first | (simp [entryFrame, mkF, argsToLocals, Value.category]; done) | rfl
  refine own_entry ef ?_
  have N0 := Fr.nil n0
  have K0 := Keep.refl h0 []
  have Z0 : n0 ≤ h0.size := O0.1 ▸ O0.2.1
  refine own_getS X0 hx hZ hown (host := "") (Or.inl (hw _ (List.mem_of_getElem? (i := 73) rfl))) Via.refl e0 (SA.ext O0.2) (hb hby own_d_jdk_52_method_5_code_0) rfl ?_
  intro T1 X1 e1
  refine own_ifT X1 hx (hb hby own_d_jdk_52_method_5_code_3) (by decide) rfl (by decide) ?_
  refine own_iloadN X1 hx (hb hby own_d_jdk_52_method_5_code_28) rfl rfl ?_
  refine own_iconst X1 hx (1 : Int32) (hb hby own_d_jdk_52_method_5_code_29) (by decide) rfl ?_
  refine own_ishl X1 hx (hb hby own_d_jdk_52_method_5_code_30) rfl ?_
  rw [show ((1 : Int32) <<< ((1 : Int32) &&& 31)) = (2 : Int32) from by decide]
  refine own_istoreN X1 hx #[.val (.ref b1), .val (.int (2 : Int32))] (hb hby own_d_jdk_52_method_5_code_31) rfl rfl ?_
  refine own_aloadN X1 hx (hb hby own_d_jdk_52_method_5_code_32) rfl rfl rfl ?_
  refine own_iloadN X1 hx (hb hby own_d_jdk_52_method_5_code_33) rfl rfl ?_
  refine own_iinc X1 hx #[.val (.ref b1), .val (.int (3 : Int32))] (hb hby own_d_jdk_52_method_5_code_34) rfl rfl rfl ?_
  refine own_baloadBytes X1 hx hZ e1 V0 ⟨by decide, by decide⟩ rfl (hb hby own_d_jdk_52_method_5_code_37) rfl ?_
  refine own_sipush X1 hx (255 : Int32) (hb hby own_d_jdk_52_method_5_code_38) (by decide) rfl ?_
  refine own_iand X1 hx (hb hby own_d_jdk_52_method_5_code_41) rfl ?_
  refine own_getS X1 hx hZ hown (host := "") (Or.inl (hw _ (List.mem_of_getElem? (i := 74) rfl))) Via.refl e1 (SH.ext O0.2) (hb hby own_d_jdk_52_method_5_code_42) rfl ?_
  intro T2 X2 e2
  refine own_ishl X2 hx (hb hby own_d_jdk_52_method_5_code_45) rfl ?_
  refine own_aloadN X2 hx (hb hby own_d_jdk_52_method_5_code_46) rfl rfl rfl ?_
  refine own_iloadN X2 hx (hb hby own_d_jdk_52_method_5_code_47) rfl rfl ?_
  refine own_baloadBytes X2 hx hZ e2 V0 ⟨by decide, by decide⟩ rfl (hb hby own_d_jdk_52_method_5_code_48) rfl ?_
  refine own_sipush X2 hx (255 : Int32) (hb hby own_d_jdk_52_method_5_code_49) (by decide) rfl ?_
  refine own_iand X2 hx (hb hby own_d_jdk_52_method_5_code_52) rfl ?_
  refine own_getS X2 hx hZ hown (host := "") (Or.inl (hw _ (List.mem_of_getElem? (i := 75) rfl))) Via.refl e2 (SL.ext O0.2) (hb hby own_d_jdk_52_method_5_code_53) rfl ?_
  intro T3 X3 e3
  refine own_ishl X3 hx (hb hby own_d_jdk_52_method_5_code_56) rfl ?_
  refine own_ior X3 hx (hb hby own_d_jdk_52_method_5_code_57) rfl ?_
  refine own_i2c X3 hx (hb hby own_d_jdk_52_method_5_code_58) rfl ?_
  rw [show (((((StrChars.lo8 x1) &&& (255 : Int32)) <<< ((0 : Int32) &&& 31)) ||| (((StrChars.hi8 x1) &&& (255 : Int32)) <<< ((8 : Int32) &&& 31))).toUInt32.toUInt16.toUInt32.toInt32) = x1 from StrChars.pair_says hx1.1 hx1.2]
  exact own_retN X3 hx hlocks hret (by simp) (hb hby own_d_jdk_52_method_5_code_59) (by decide) (by decide) (own_narC2 hx1) ⟨rfl, N0, e3⟩
set_option maxRecDepth 65536 in
set_option maxHeartbeats 40000000 in
theorem own_tob2 (l : Launch) (Z : State) (a0 : Array Value) (hw : ∀ d ∈ tables_1, d.before a0 Z = true) (c1 : Addr) (kc : ClassId) (x0 x1 : Int32) (h0 : Heap) (n0 : Nat) (O0 : Old Z n0 h0) (SA : Sta Z Z.heap "java/lang/StringUTF16" "$assertionsDisabled" "Z" (.int (1 : Int32))) (SH : Sta Z Z.heap "java/lang/StringUTF16" "HI_BYTE_SHIFT" "I" (.int (0 : Int32))) (SL : Sta Z Z.heap "java/lang/StringUTF16" "LO_BYTE_SHIFT" "I" (.int (8 : Int32))) (VC : Arv Z h0 c1 kc .char (2 : Int32) [.int x0, .int x1] (.int (0 : Int32))) :
    own_Met l (⟨"java/lang/StringUTF16", "toBytes", "([CII)[B"⟩ : MethodName) jdk_52_method_14_code 5 (some (.array .byte)) ({ frames := 2, cells := 1, slots := 4, locals := 24 } : Room) Z #[(.ref c1), (.int (0 : Int32)), (.int (2 : Int32))] h0 (fun v h L => ∃ (b : Addr) (k : ClassId), v = some (.ref b) ∧ Fr n0 L ∧ Keep h0 h [] ∧ n0 ≤ b ∧ h0.size ≤ b ∧ Arv Z h b k .byte (4 : Int32) [.int (StrChars.lo8 x0), .int (StrChars.hi8 x0), .int (StrChars.lo8 x1), .int (StrChars.hi8 x1)] (.int (0 : Int32))) := by
  refine own_met (plainFor_of_name own_pn_java_lang_StringUTF16) ?_
  intro p e s m below meth c T0 hx hby hml hZ hown hnm hret hlocks X0 e0 hh0
  have ef : entryFrame m #[(.ref c1), (.int (0 : Int32)), (.int (2 : Int32))] 5 = mkF m 0 #[.val (.ref c1), .val (.int (0 : Int32)), .val (.int (2 : Int32)), .unset, .unset] [] := by first | (simp [entryFrame, mkF, argsToLocals, Value.category]; done) | rfl
  refine own_entry ef ?_
  have N0 := Fr.nil n0
  have K0 := Keep.refl h0 []
  have Z0 : n0 ≤ h0.size := O0.1 ▸ O0.2.1
  refine own_iloadN X0 hx (hb hby own_d_jdk_52_method_14_code_0) rfl rfl ?_
  refine own_static X0 hx hZ (y := (⟨"java/lang/StringUTF16", "newBytesFor", "(I)[B"⟩ : MethodName)) hown (hw _ (List.mem_of_getElem? (i := 63) rfl)) (hw _ (List.mem_of_getElem? (i := 64) rfl)) (hw _ (List.mem_of_getElem? (i := 52) rfl)) (hw _ (List.mem_of_getElem? (i := 65) rfl)) (by decide) e0 (by decide) (W := 0) (by decide) (by decide) (by decide) [(.int (2 : Int32))] [] (by rw [hml]; rfl) (own_nbf2 l Z a0 hw h0 n0 O0) own_pd1 rfl rfl rfl (hb hby own_d_jdk_52_method_14_code_1) rfl ?_
  intro v1 T1 L1 X1 hQ1
  obtain ⟨b1, k1, rfl, Nq1, Kq1, g_b1, sz_b1, V1⟩ := hQ1
  have sz_b1 := Nat.le_trans K0.1 sz_b1
  have N1 := Fr.app N0 Nq1
  have K2 := K0.trans Kq1 all0
  have f3 := (VC.keep Kq1 nin0)
  show own_Ends p e below _ (T1.setTop (mkF m 4 #[.val (.ref c1), .val (.int (0 : Int32)), .val (.int (2 : Int32)), .unset, .unset] [(.ref b1)]))
  refine own_astoreN X1 hx #[.val (.ref c1), .val (.int (0 : Int32)), .val (.int (2 : Int32)), .val (.ref b1), .unset] (hb hby own_d_jdk_52_method_14_code_4) rfl rfl rfl ?_
  refine own_iconst X1 hx (0 : Int32) (hb hby own_d_jdk_52_method_14_code_5) (by decide) rfl ?_
  refine own_istore X1 hx #[.val (.ref c1), .val (.int (0 : Int32)), .val (.int (2 : Int32)), .val (.ref b1), .val (.int (0 : Int32))] (hb hby own_d_jdk_52_method_14_code_6) rfl rfl ?_
  refine own_iload X1 hx (hb hby own_d_jdk_52_method_14_code_8) rfl rfl ?_
  refine own_iloadN X1 hx (hb hby own_d_jdk_52_method_14_code_10) rfl rfl ?_
  refine own_icmpF X1 hx (hb hby own_d_jdk_52_method_14_code_11) rfl (by decide) ?_
  refine own_aloadN X1 hx (hb hby own_d_jdk_52_method_14_code_14) rfl rfl rfl ?_
  refine own_iload X1 hx (hb hby own_d_jdk_52_method_14_code_15) rfl rfl ?_
  refine own_aloadN X1 hx (hb hby own_d_jdk_52_method_14_code_17) rfl rfl rfl ?_
  refine own_iloadN X1 hx (hb hby own_d_jdk_52_method_14_code_18) rfl rfl ?_
  refine own_caload X1 hx hZ rfl f3 ⟨by decide, by decide⟩ rfl (hb hby own_d_jdk_52_method_14_code_19) rfl ?_
  have f4 := (O0.keep Kq1 all0)
  refine own_static X1 hx hZ (y := (⟨"java/lang/StringUTF16", "putChar", "([BII)V"⟩ : MethodName)) hown (hw _ (List.mem_of_getElem? (i := 70) rfl)) (hw _ (List.mem_of_getElem? (i := 71) rfl)) (hw _ (List.mem_of_getElem? (i := 52) rfl)) (hw _ (List.mem_of_getElem? (i := 72) rfl)) (by decide) rfl (by decide) (W := 0) (by decide) (by decide) (by decide) [(.ref b1), (.int (0 : Int32)), (.int x0)] [] (by rw [hml]; rfl) (own_put2_0 l Z a0 hw b1 _ x0 (0 : Int32) (0 : Int32) (0 : Int32) (0 : Int32) T1.heap n0 f4 SA SH SL g_b1 V1) own_pd2 rfl rfl rfl (hb hby own_d_jdk_52_method_14_code_20) rfl ?_
  intro v5 T5 L5 X5 hQ5
  obtain ⟨rfl, Nq5, Kq5, V5⟩ := hQ5
  have N5 := Fr.app N1 Nq5
  have K6 := K2.trans Kq5 (allS (Or.inr sz_b1) all0)
  show own_Ends p e below _ (T5.setTop (mkF m 23 #[.val (.ref c1), .val (.int (0 : Int32)), .val (.int (2 : Int32)), .val (.ref b1), .val (.int (0 : Int32))] []))
  refine own_iinc X5 hx #[.val (.ref c1), .val (.int (1 : Int32)), .val (.int (2 : Int32)), .val (.ref b1), .val (.int (0 : Int32))] (hb hby own_d_jdk_52_method_14_code_23) rfl rfl rfl ?_
  refine own_iinc X5 hx #[.val (.ref c1), .val (.int (1 : Int32)), .val (.int (2 : Int32)), .val (.ref b1), .val (.int (1 : Int32))] (hb hby own_d_jdk_52_method_14_code_26) rfl rfl rfl ?_
  refine own_goto X5 hx (hb hby own_d_jdk_52_method_14_code_29) (by decide) rfl ?_
  refine own_iload X5 hx (hb hby own_d_jdk_52_method_14_code_8) rfl rfl ?_
  refine own_iloadN X5 hx (hb hby own_d_jdk_52_method_14_code_10) rfl rfl ?_
  refine own_icmpF X5 hx (hb hby own_d_jdk_52_method_14_code_11) rfl (by decide) ?_
  refine own_aloadN X5 hx (hb hby own_d_jdk_52_method_14_code_14) rfl rfl rfl ?_
  refine own_iload X5 hx (hb hby own_d_jdk_52_method_14_code_15) rfl rfl ?_
  refine own_aloadN X5 hx (hb hby own_d_jdk_52_method_14_code_17) rfl rfl rfl ?_
  refine own_iloadN X5 hx (hb hby own_d_jdk_52_method_14_code_18) rfl rfl ?_
  have f7 := (f3.keep Kq5 (ninS (own_neV f3 V1 (by decide)) nin0))
  refine own_caload X5 hx hZ rfl f7 ⟨by decide, by decide⟩ rfl (hb hby own_d_jdk_52_method_14_code_19) rfl ?_
  have f8 := (f4.keep Kq5 (allS g_b1 all0))
  refine own_static X5 hx hZ (y := (⟨"java/lang/StringUTF16", "putChar", "([BII)V"⟩ : MethodName)) hown (hw _ (List.mem_of_getElem? (i := 70) rfl)) (hw _ (List.mem_of_getElem? (i := 71) rfl)) (hw _ (List.mem_of_getElem? (i := 52) rfl)) (hw _ (List.mem_of_getElem? (i := 72) rfl)) (by decide) rfl (by decide) (W := 0) (by decide) (by decide) (by decide) [(.ref b1), (.int (1 : Int32)), (.int x1)] [] (by rw [hml]; rfl) (own_put2_1 l Z a0 hw b1 _ x1 (StrChars.lo8 x0) (StrChars.hi8 x0) (0 : Int32) (0 : Int32) T5.heap n0 f8 SA SH SL g_b1 V5) own_pd2 rfl rfl rfl (hb hby own_d_jdk_52_method_14_code_20) rfl ?_
  intro v9 T9 L9 X9 hQ9
  obtain ⟨rfl, Nq9, Kq9, V9⟩ := hQ9
  have N9 := Fr.app N5 Nq9
  have K10 := K6.trans Kq9 (allS (Or.inr sz_b1) all0)
  show own_Ends p e below _ (T9.setTop (mkF m 23 #[.val (.ref c1), .val (.int (1 : Int32)), .val (.int (2 : Int32)), .val (.ref b1), .val (.int (1 : Int32))] []))
  refine own_iinc X9 hx #[.val (.ref c1), .val (.int (2 : Int32)), .val (.int (2 : Int32)), .val (.ref b1), .val (.int (1 : Int32))] (hb hby own_d_jdk_52_method_14_code_23) rfl rfl rfl ?_
  refine own_iinc X9 hx #[.val (.ref c1), .val (.int (2 : Int32)), .val (.int (2 : Int32)), .val (.ref b1), .val (.int (2 : Int32))] (hb hby own_d_jdk_52_method_14_code_26) rfl rfl rfl ?_
  refine own_goto X9 hx (hb hby own_d_jdk_52_method_14_code_29) (by decide) rfl ?_
  refine own_iload X9 hx (hb hby own_d_jdk_52_method_14_code_8) rfl rfl ?_
  refine own_iloadN X9 hx (hb hby own_d_jdk_52_method_14_code_10) rfl rfl ?_
  refine own_icmpT X9 hx (hb hby own_d_jdk_52_method_14_code_11) (by decide) rfl (by decide) ?_
  refine own_aloadN X9 hx (hb hby own_d_jdk_52_method_14_code_32) rfl rfl rfl ?_
  exact own_retA X9 hx hlocks hret rfl rfl (hb hby own_d_jdk_52_method_14_code_33) (by decide) (by decide) ⟨b1, _, rfl, N9, by exact ⟨K10, g_b1, sz_b1, V9⟩⟩
set_option maxRecDepth 65536 in
set_option maxHeartbeats 40000000 in
theorem own_cmpi2 (l : Launch) (Z : State) (a0 : Array Value) (hw : ∀ d ∈ tables_1, d.before a0 Z = true) (c1 : Addr) (kc : ClassId) (x0 x1 : Int32) (b1 : Addr) (kb : ClassId) (h0 : Heap) (n0 : Nat) (O0 : Old Z n0 h0) (VC : Arv Z h0 c1 kc .char (2 : Int32) [.int x0, .int x1] (.int (0 : Int32))) (g_b1 : n0 ≤ b1) (VB : Arv Z h0 b1 kb .byte (2 : Int32) [.int (0 : Int32), .int (0 : Int32)] (.int (0 : Int32))) (HB : (255 : Int32) < x0 ∨ (255 : Int32) < x1) :
    own_Met l (⟨"java/lang/StringUTF16", "compress", "([CI[BII)I"⟩ : MethodName) jdk_52_method_21_code 7 (some .int) ({ frames := 0, cells := 0, slots := 0, locals := 0 } : Room) Z #[(.ref c1), (.int (0 : Int32)), (.ref b1), (.int (0 : Int32)), (.int (2 : Int32))] h0 (fun v h L => ∃ i : Int32, v = some (.int i) ∧ ((i = (0 : Int32) ∧ (255 : Int32) < x0) ∨ (i = (1 : Int32) ∧ (255 : Int32) < x1)) ∧ Fr n0 L ∧ Keep h0 h [b1]) := by
  refine own_met (plainFor_of_name own_pn_java_lang_StringUTF16) ?_
  intro p e s m below meth c T0 hx hby hml hZ hown hnm hret hlocks X0 e0 hh0
  have ef : entryFrame m #[(.ref c1), (.int (0 : Int32)), (.ref b1), (.int (0 : Int32)), (.int (2 : Int32))] 7 = mkF m 0 #[.val (.ref c1), .val (.int (0 : Int32)), .val (.ref b1), .val (.int (0 : Int32)), .val (.int (2 : Int32)), .unset, .unset] [] := by first | (simp [entryFrame, mkF, argsToLocals, Value.category]; done) | rfl
  refine own_entry ef ?_
  have N0 := Fr.nil n0
  have K0 := Keep.refl h0 [b1]
  have Z0 : n0 ≤ h0.size := O0.1 ▸ O0.2.1
  refine own_iconst X0 hx (0 : Int32) (hb hby own_d_jdk_52_method_21_code_0) (by decide) rfl ?_
  refine own_istore X0 hx #[.val (.ref c1), .val (.int (0 : Int32)), .val (.ref b1), .val (.int (0 : Int32)), .val (.int (2 : Int32)), .val (.int (0 : Int32)), .unset] (hb hby own_d_jdk_52_method_21_code_1) rfl rfl ?_
  refine own_iload X0 hx (hb hby own_d_jdk_52_method_21_code_3) rfl rfl ?_
  refine own_iload X0 hx (hb hby own_d_jdk_52_method_21_code_5) rfl rfl ?_
  refine own_icmpF X0 hx (hb hby own_d_jdk_52_method_21_code_7) rfl (by decide) ?_
  refine own_aloadN X0 hx (hb hby own_d_jdk_52_method_21_code_10) rfl rfl rfl ?_
  refine own_iloadN X0 hx (hb hby own_d_jdk_52_method_21_code_11) rfl rfl ?_
  refine own_caload X0 hx hZ e0 VC ⟨by decide, by decide⟩ rfl (hb hby own_d_jdk_52_method_21_code_12) rfl ?_
  refine own_istore X0 hx #[.val (.ref c1), .val (.int (0 : Int32)), .val (.ref b1), .val (.int (0 : Int32)), .val (.int (2 : Int32)), .val (.int (0 : Int32)), .val (.int x0)] (hb hby own_d_jdk_52_method_21_code_13) rfl rfl ?_
  refine own_iload X0 hx (hb hby own_d_jdk_52_method_21_code_15) rfl rfl ?_
  refine own_sipush X0 hx (255 : Int32) (hb hby own_d_jdk_52_method_21_code_17) (by decide) rfl ?_
  refine own_icmp_le X0 hx (hb hby own_d_jdk_52_method_21_code_20) (by decide) rfl rfl (fun hc20_1 => ?_) (fun hc20_1 => ?_)
  · refine own_aloadN X0 hx (hb hby own_d_jdk_52_method_21_code_26) rfl rfl rfl ?_
    refine own_iloadN X0 hx (hb hby own_d_jdk_52_method_21_code_27) rfl rfl ?_
    refine own_iload X0 hx (hb hby own_d_jdk_52_method_21_code_28) rfl rfl ?_
    refine own_i2b X0 hx (hb hby own_d_jdk_52_method_21_code_30) rfl ?_
    refine own_stB X0 hx hZ e0 VB ⟨by decide, by decide⟩ 0 rfl (Nat.le_of_ble_eq_true rfl) (own_lo8 x0) N0 g_b1 (hb hby own_d_jdk_52_method_21_code_31) rfl ?_
    intro T2 h2 X2 e2 W2 N2 V2
    have K3 := K0.wr W2 (Or.inl (List.mem_of_getElem? (i := 0) rfl))
    refine own_iinc X2 hx #[.val (.ref c1), .val (.int (1 : Int32)), .val (.ref b1), .val (.int (0 : Int32)), .val (.int (2 : Int32)), .val (.int (0 : Int32)), .val (.int x0)] (hb hby own_d_jdk_52_method_21_code_32) rfl rfl rfl ?_
    refine own_iinc X2 hx #[.val (.ref c1), .val (.int (1 : Int32)), .val (.ref b1), .val (.int (1 : Int32)), .val (.int (2 : Int32)), .val (.int (0 : Int32)), .val (.int x0)] (hb hby own_d_jdk_52_method_21_code_35) rfl rfl rfl ?_
    refine own_iinc X2 hx #[.val (.ref c1), .val (.int (1 : Int32)), .val (.ref b1), .val (.int (1 : Int32)), .val (.int (2 : Int32)), .val (.int (1 : Int32)), .val (.int x0)] (hb hby own_d_jdk_52_method_21_code_38) rfl rfl rfl ?_
    refine own_goto X2 hx (hb hby own_d_jdk_52_method_21_code_41) (by decide) rfl ?_
    refine own_iload X2 hx (hb hby own_d_jdk_52_method_21_code_3) rfl rfl ?_
    refine own_iload X2 hx (hb hby own_d_jdk_52_method_21_code_5) rfl rfl ?_
    refine own_icmpF X2 hx (hb hby own_d_jdk_52_method_21_code_7) rfl (by decide) ?_
    refine own_aloadN X2 hx (hb hby own_d_jdk_52_method_21_code_10) rfl rfl rfl ?_
    refine own_iloadN X2 hx (hb hby own_d_jdk_52_method_21_code_11) rfl rfl ?_
    have f4 := (VC.other W2 (own_neV VC VB (by decide)))
    refine own_caload X2 hx hZ e2 f4 ⟨by decide, by decide⟩ rfl (hb hby own_d_jdk_52_method_21_code_12) rfl ?_
    refine own_istore X2 hx #[.val (.ref c1), .val (.int (1 : Int32)), .val (.ref b1), .val (.int (1 : Int32)), .val (.int (2 : Int32)), .val (.int (1 : Int32)), .val (.int x1)] (hb hby own_d_jdk_52_method_21_code_13) rfl rfl ?_
    refine own_iload X2 hx (hb hby own_d_jdk_52_method_21_code_15) rfl rfl ?_
    refine own_sipush X2 hx (255 : Int32) (hb hby own_d_jdk_52_method_21_code_17) (by decide) rfl ?_
    refine own_icmp_le X2 hx (hb hby own_d_jdk_52_method_21_code_20) (by decide) rfl rfl (fun hc20_5 => ?_) (fun hc20_5 => ?_)
    · refine own_aloadN X2 hx (hb hby own_d_jdk_52_method_21_code_26) rfl rfl rfl ?_
      refine own_iloadN X2 hx (hb hby own_d_jdk_52_method_21_code_27) rfl rfl ?_
      refine own_iload X2 hx (hb hby own_d_jdk_52_method_21_code_28) rfl rfl ?_
      refine own_i2b X2 hx (hb hby own_d_jdk_52_method_21_code_30) rfl ?_
      refine own_stB X2 hx hZ e2 V2 ⟨by decide, by decide⟩ 1 rfl (Nat.le_of_ble_eq_true rfl) (own_lo8 x1) N2 g_b1 (hb hby own_d_jdk_52_method_21_code_31) rfl ?_
      intro T6 h6 X6 e6 W6 N6 V6
      have K7 := K3.wr W6 (Or.inl (List.mem_of_getElem? (i := 0) rfl))
      refine own_iinc X6 hx #[.val (.ref c1), .val (.int (2 : Int32)), .val (.ref b1), .val (.int (1 : Int32)), .val (.int (2 : Int32)), .val (.int (1 : Int32)), .val (.int x1)] (hb hby own_d_jdk_52_method_21_code_32) rfl rfl rfl ?_
      refine own_iinc X6 hx #[.val (.ref c1), .val (.int (2 : Int32)), .val (.ref b1), .val (.int (2 : Int32)), .val (.int (2 : Int32)), .val (.int (1 : Int32)), .val (.int x1)] (hb hby own_d_jdk_52_method_21_code_35) rfl rfl rfl ?_
      refine own_iinc X6 hx #[.val (.ref c1), .val (.int (2 : Int32)), .val (.ref b1), .val (.int (2 : Int32)), .val (.int (2 : Int32)), .val (.int (2 : Int32)), .val (.int x1)] (hb hby own_d_jdk_52_method_21_code_38) rfl rfl rfl ?_
      refine own_goto X6 hx (hb hby own_d_jdk_52_method_21_code_41) (by decide) rfl ?_
      refine own_iload X6 hx (hb hby own_d_jdk_52_method_21_code_3) rfl rfl ?_
      refine own_iload X6 hx (hb hby own_d_jdk_52_method_21_code_5) rfl rfl ?_
      refine own_icmpT X6 hx (hb hby own_d_jdk_52_method_21_code_7) (by decide) rfl (by decide) ?_
      refine own_iload X6 hx (hb hby own_d_jdk_52_method_21_code_44) rfl rfl ?_
      exact own_retI X6 hx hlocks hret (hb hby own_d_jdk_52_method_21_code_46) (by decide) (by decide) (by exfalso; rcases HB with hb | hb <;> contradiction)
    · refine own_iload X2 hx (hb hby own_d_jdk_52_method_21_code_23) rfl rfl ?_
      exact own_retI X2 hx hlocks hret (hb hby own_d_jdk_52_method_21_code_25) (by decide) (by decide) ⟨_, rfl, Or.inr (⟨rfl, hc20_5⟩), N2, by rw [e2]; exact K3⟩
  · refine own_iload X0 hx (hb hby own_d_jdk_52_method_21_code_23) rfl rfl ?_
    exact own_retI X0 hx hlocks hret (hb hby own_d_jdk_52_method_21_code_25) (by decide) (by decide) ⟨_, rfl, Or.inl ⟨rfl, hc20_1⟩, N0, by rw [e0]; exact K0⟩
set_option maxRecDepth 65536 in
set_option maxHeartbeats 40000000 in
theorem own_cmpo2 (l : Launch) (Z : State) (a0 : Array Value) (hw : ∀ d ∈ tables_1, d.before a0 Z = true) (c1 : Addr) (kc : ClassId) (x0 x1 : Int32) (h0 : Heap) (n0 : Nat) (O0 : Old Z n0 h0) (SA : Sta Z Z.heap "java/lang/StringUTF16" "$assertionsDisabled" "Z" (.int (1 : Int32))) (SH : Sta Z Z.heap "java/lang/StringUTF16" "HI_BYTE_SHIFT" "I" (.int (0 : Int32))) (SL : Sta Z Z.heap "java/lang/StringUTF16" "LO_BYTE_SHIFT" "I" (.int (8 : Int32))) (hx0 : ¬ x0 < 0 ∧ ¬ (65535 : Int32) < x0) (hx1 : ¬ x1 < 0 ∧ ¬ (65535 : Int32) < x1) (VC : Arv Z h0 c1 kc .char (2 : Int32) [.int x0, .int x1] (.int (0 : Int32))) (HB : (255 : Int32) < x0 ∨ (255 : Int32) < x1) :
    own_Met l (⟨"java/lang/StringUTF16", "compress", "([CII)[B"⟩ : MethodName) jdk_52_method_16_code 6 (some (.array .byte)) ({ frames := 3, cells := 2, slots := 6, locals := 40 } : Room) Z #[(.ref c1), (.int (0 : Int32)), (.int (2 : Int32))] h0 (fun v h L => ∃ (b : Addr) (k : ClassId), v = some (.ref b) ∧ Fr n0 L ∧ Keep h0 h [] ∧ n0 ≤ b ∧ h0.size ≤ b ∧ Arv Z h b k .byte (4 : Int32) [.int (StrChars.lo8 x0), .int (StrChars.hi8 x0), .int (StrChars.lo8 x1), .int (StrChars.hi8 x1)] (.int (0 : Int32))) := by
  refine own_met (plainFor_of_name own_pn_java_lang_StringUTF16) ?_
  intro p e s m below meth c T0 hx hby hml hZ hown hnm hret hlocks X0 e0 hh0
  have ef : entryFrame m #[(.ref c1), (.int (0 : Int32)), (.int (2 : Int32))] 6 = mkF m 0 #[.val (.ref c1), .val (.int (0 : Int32)), .val (.int (2 : Int32)), .unset, .unset, .unset] [] := by first | (simp [entryFrame, mkF, argsToLocals, Value.category]; done) | rfl
  refine own_entry ef ?_
  have N0 := Fr.nil n0
  have K0 := Keep.refl h0 []
  have Z0 : n0 ≤ h0.size := O0.1 ▸ O0.2.1
  refine own_iloadN X0 hx (hb hby own_d_jdk_52_method_16_code_0) rfl rfl ?_
  refine own_newP X0 hx hZ (aty := .byte) (hw _ (List.mem_of_getElem? (i := 25) rfl)) e0 (hb hby own_d_jdk_52_method_16_code_1) (by decide) 2 (by decide) (by decide) (by decide) (by decide) rfl ?_
  intro T1 h1 b1 k1 X1 e1 g1 E1 V1q
  have g_b1 : n0 ≤ b1 := Nat.le_trans (own_oz O0) (Nat.le_of_eq g1.symm)
  have sz_b1 : h0.size ≤ b1 := Nat.le_trans K0.1 (Nat.le_of_eq g1.symm)
  have K2 := K0.ext E1
  have V1 : Arv Z h1 b1 k1 .byte (2 : Int32) [(.int (0 : Int32)), (.int (0 : Int32))] (.int (0 : Int32)) := Arv.pad V1q (pad_rep [] (.int (0 : Int32)) 2)
  refine own_astoreN X1 hx #[.val (.ref c1), .val (.int (0 : Int32)), .val (.int (2 : Int32)), .val (.ref b1), .unset, .unset] (hb hby own_d_jdk_52_method_16_code_3) rfl rfl rfl ?_
  refine own_aloadN X1 hx (hb hby own_d_jdk_52_method_16_code_4) rfl rfl rfl ?_
  refine own_iloadN X1 hx (hb hby own_d_jdk_52_method_16_code_5) rfl rfl ?_
  refine own_aloadN X1 hx (hb hby own_d_jdk_52_method_16_code_6) rfl rfl rfl ?_
  refine own_iconst X1 hx (0 : Int32) (hb hby own_d_jdk_52_method_16_code_7) (by decide) rfl ?_
  refine own_iloadN X1 hx (hb hby own_d_jdk_52_method_16_code_8) rfl rfl ?_
  have f3 := (O0.ext E1)
  have f4 := (VC.ext E1)
  refine own_static X1 hx hZ (y := (⟨"java/lang/StringUTF16", "compress", "([CI[BII)I"⟩ : MethodName)) hown (hw _ (List.mem_of_getElem? (i := 54) rfl)) (hw _ (List.mem_of_getElem? (i := 55) rfl)) (hw _ (List.mem_of_getElem? (i := 52) rfl)) (hw _ (List.mem_of_getElem? (i := 56) rfl)) (by decide) e1 (by decide) (W := 0) (by decide) (by decide) (by decide) [(.ref c1), (.int (0 : Int32)), (.ref b1), (.int (0 : Int32)), (.int (2 : Int32))] [] (by rw [hml]; rfl) (own_cmpi2 l Z a0 hw c1 _ x0 x1 b1 _ h1 n0 f3 f4 g_b1 V1 HB) own_pd3 rfl rfl rfl (hb hby own_d_jdk_52_method_16_code_9) rfl ?_
  intro v5 T5 L5 X5 hQ5
  obtain ⟨i5, rfl, hi5, Nq5, Kq5⟩ := hQ5
  have N5 := Fr.app N0 Nq5
  have K6 := K2.trans Kq5 (allS (Or.inr sz_b1) all0)
  show own_Ends p e below _ (T5.setTop (mkF m 12 #[.val (.ref c1), .val (.int (0 : Int32)), .val (.int (2 : Int32)), .val (.ref b1), .unset, .unset] [(.int i5)]))
  rcases hi5 with ⟨rfl, hb0⟩ | ⟨rfl, hb1⟩
  · refine own_istore X5 hx #[.val (.ref c1), .val (.int (0 : Int32)), .val (.int (2 : Int32)), .val (.ref b1), .val (.int (0 : Int32)), .unset] (hb hby own_d_jdk_52_method_16_code_12) rfl rfl ?_
    refine own_iload X5 hx (hb hby own_d_jdk_52_method_16_code_14) rfl rfl ?_
    refine own_iloadN X5 hx (hb hby own_d_jdk_52_method_16_code_16) rfl rfl ?_
    refine own_icmpF X5 hx (hb hby own_d_jdk_52_method_16_code_17) rfl (by decide) ?_
    refine own_aloadN X5 hx (hb hby own_d_jdk_52_method_16_code_20) rfl rfl rfl ?_
    refine own_iloadN X5 hx (hb hby own_d_jdk_52_method_16_code_21) rfl rfl ?_
    refine own_iloadN X5 hx (hb hby own_d_jdk_52_method_16_code_22) rfl rfl ?_
    have f7 := (f3.keep Kq5 (allS g_b1 all0))
    have f8 := (f4.keep Kq5 (ninS (Nat.ne_of_lt (Nat.lt_of_lt_of_le VC.lt (Nat.le_of_eq g1.symm))) nin0))
    refine own_static X5 hx hZ (y := (⟨"java/lang/StringUTF16", "toBytes", "([CII)[B"⟩ : MethodName)) hown (hw _ (List.mem_of_getElem? (i := 60) rfl)) (hw _ (List.mem_of_getElem? (i := 61) rfl)) (hw _ (List.mem_of_getElem? (i := 52) rfl)) (hw _ (List.mem_of_getElem? (i := 62) rfl)) (by decide) rfl (by decide) (W := 0) (by decide) (by decide) (by decide) [(.ref c1), (.int (0 : Int32)), (.int (2 : Int32))] [] (by rw [hml]; rfl) (own_tob2 l Z a0 hw c1 _ x0 x1 T5.heap n0 f7 SA SH SL f8) own_pd4 rfl rfl rfl (hb hby own_d_jdk_52_method_16_code_23) rfl ?_
    intro v9 T9 L9 X9 hQ9
    obtain ⟨b9, k9, rfl, Nq9, Kq9, g_b9, sz_b9, V9⟩ := hQ9
    have sz_b9 := Nat.le_trans K6.1 sz_b9
    have N9 := Fr.app N5 Nq9
    have K10 := K6.trans Kq9 all0
    show own_Ends p e below _ (T9.setTop (mkF m 26 #[.val (.ref c1), .val (.int (0 : Int32)), .val (.int (2 : Int32)), .val (.ref b1), .val (.int (0 : Int32)), .unset] [(.ref b9)]))
    refine own_astore X9 hx #[.val (.ref c1), .val (.int (0 : Int32)), .val (.int (2 : Int32)), .val (.ref b1), .val (.int (0 : Int32)), .val (.ref b9)] (hb hby own_d_jdk_52_method_16_code_26) rfl rfl rfl ?_
    refine own_aload X9 hx (hb hby own_d_jdk_52_method_16_code_28) rfl rfl rfl ?_
    refine own_iload X9 hx (hb hby own_d_jdk_52_method_16_code_30) rfl rfl ?_
    have f11 := (f7.keep Kq9 all0)
    refine own_static X9 hx hZ (y := (⟨"java/lang/StringUTF16", "getChar", "([BI)C"⟩ : MethodName)) hown (hw _ (List.mem_of_getElem? (i := 76) rfl)) (hw _ (List.mem_of_getElem? (i := 77) rfl)) (hw _ (List.mem_of_getElem? (i := 52) rfl)) (hw _ (List.mem_of_getElem? (i := 78) rfl)) (by decide) rfl (by decide) (W := 0) (by decide) (by decide) (by decide) [(.ref b9), (.int (0 : Int32))] [] (by rw [hml]; rfl) (own_get2_0 l Z a0 hw b9 _ x0 x1 T9.heap n0 f11 SA SH SL hx0 hx1 V9) own_pd5 rfl rfl rfl (hb hby own_d_jdk_52_method_16_code_32) rfl ?_
    intro v12 T12 L12 X12 hQ12
    obtain ⟨rfl, Nq12, hh12⟩ := hQ12
    have N12 := Fr.app N9 Nq12
    show own_Ends p e below _ (T12.setTop (mkF m 35 #[.val (.ref c1), .val (.int (0 : Int32)), .val (.int (2 : Int32)), .val (.ref b1), .val (.int (0 : Int32)), .val (.ref b9)] [(.int x0)]))
    refine own_sipush X12 hx (255 : Int32) (hb hby own_d_jdk_52_method_16_code_35) (by decide) rfl ?_
    refine own_icmpT X12 hx (hb hby own_d_jdk_52_method_16_code_38) (by decide) rfl (tlt hb0).2.2.1 ?_
    refine own_aload X12 hx (hb hby own_d_jdk_52_method_16_code_54) rfl rfl rfl ?_
    exact own_retA X12 hx hlocks hret rfl rfl (hb hby own_d_jdk_52_method_16_code_56) (by decide) (by decide) ⟨b9, _, rfl, N12, by rw [hh12]; exact ⟨K10, g_b9, sz_b9, V9⟩⟩
  · refine own_istore X5 hx #[.val (.ref c1), .val (.int (0 : Int32)), .val (.int (2 : Int32)), .val (.ref b1), .val (.int (1 : Int32)), .unset] (hb hby own_d_jdk_52_method_16_code_12) rfl rfl ?_
    refine own_iload X5 hx (hb hby own_d_jdk_52_method_16_code_14) rfl rfl ?_
    refine own_iloadN X5 hx (hb hby own_d_jdk_52_method_16_code_16) rfl rfl ?_
    refine own_icmpF X5 hx (hb hby own_d_jdk_52_method_16_code_17) rfl (by decide) ?_
    refine own_aloadN X5 hx (hb hby own_d_jdk_52_method_16_code_20) rfl rfl rfl ?_
    refine own_iloadN X5 hx (hb hby own_d_jdk_52_method_16_code_21) rfl rfl ?_
    refine own_iloadN X5 hx (hb hby own_d_jdk_52_method_16_code_22) rfl rfl ?_
    have f13 := (f3.keep Kq5 (allS g_b1 all0))
    have f14 := (f4.keep Kq5 (ninS (Nat.ne_of_lt (Nat.lt_of_lt_of_le VC.lt (Nat.le_of_eq g1.symm))) nin0))
    refine own_static X5 hx hZ (y := (⟨"java/lang/StringUTF16", "toBytes", "([CII)[B"⟩ : MethodName)) hown (hw _ (List.mem_of_getElem? (i := 60) rfl)) (hw _ (List.mem_of_getElem? (i := 61) rfl)) (hw _ (List.mem_of_getElem? (i := 52) rfl)) (hw _ (List.mem_of_getElem? (i := 62) rfl)) (by decide) rfl (by decide) (W := 0) (by decide) (by decide) (by decide) [(.ref c1), (.int (0 : Int32)), (.int (2 : Int32))] [] (by rw [hml]; rfl) (own_tob2 l Z a0 hw c1 _ x0 x1 T5.heap n0 f13 SA SH SL f14) own_pd4 rfl rfl rfl (hb hby own_d_jdk_52_method_16_code_23) rfl ?_
    intro v15 T15 L15 X15 hQ15
    obtain ⟨b15, k15, rfl, Nq15, Kq15, g_b15, sz_b15, V15⟩ := hQ15
    have sz_b15 := Nat.le_trans K6.1 sz_b15
    have N15 := Fr.app N5 Nq15
    have K16 := K6.trans Kq15 all0
    show own_Ends p e below _ (T15.setTop (mkF m 26 #[.val (.ref c1), .val (.int (0 : Int32)), .val (.int (2 : Int32)), .val (.ref b1), .val (.int (1 : Int32)), .unset] [(.ref b15)]))
    refine own_astore X15 hx #[.val (.ref c1), .val (.int (0 : Int32)), .val (.int (2 : Int32)), .val (.ref b1), .val (.int (1 : Int32)), .val (.ref b15)] (hb hby own_d_jdk_52_method_16_code_26) rfl rfl rfl ?_
    refine own_aload X15 hx (hb hby own_d_jdk_52_method_16_code_28) rfl rfl rfl ?_
    refine own_iload X15 hx (hb hby own_d_jdk_52_method_16_code_30) rfl rfl ?_
    have f17 := (f13.keep Kq15 all0)
    refine own_static X15 hx hZ (y := (⟨"java/lang/StringUTF16", "getChar", "([BI)C"⟩ : MethodName)) hown (hw _ (List.mem_of_getElem? (i := 76) rfl)) (hw _ (List.mem_of_getElem? (i := 77) rfl)) (hw _ (List.mem_of_getElem? (i := 52) rfl)) (hw _ (List.mem_of_getElem? (i := 78) rfl)) (by decide) rfl (by decide) (W := 0) (by decide) (by decide) (by decide) [(.ref b15), (.int (1 : Int32))] [] (by rw [hml]; rfl) (own_get2_1 l Z a0 hw b15 _ x0 x1 T15.heap n0 f17 SA SH SL hx0 hx1 V15) own_pd5 rfl rfl rfl (hb hby own_d_jdk_52_method_16_code_32) rfl ?_
    intro v18 T18 L18 X18 hQ18
    obtain ⟨rfl, Nq18, hh18⟩ := hQ18
    have N18 := Fr.app N15 Nq18
    show own_Ends p e below _ (T18.setTop (mkF m 35 #[.val (.ref c1), .val (.int (0 : Int32)), .val (.int (2 : Int32)), .val (.ref b1), .val (.int (1 : Int32)), .val (.ref b15)] [(.int x1)]))
    refine own_sipush X18 hx (255 : Int32) (hb hby own_d_jdk_52_method_16_code_35) (by decide) rfl ?_
    refine own_icmpT X18 hx (hb hby own_d_jdk_52_method_16_code_38) (by decide) rfl (tlt hb1).2.2.1 ?_
    refine own_aload X18 hx (hb hby own_d_jdk_52_method_16_code_54) rfl rfl rfl ?_
    exact own_retA X18 hx hlocks hret rfl rfl (hb hby own_d_jdk_52_method_16_code_56) (by decide) (by decide) ⟨b15, _, rfl, N18, by rw [hh18]; exact ⟨K16, g_b15, sz_b15, V15⟩⟩
set_option maxRecDepth 65536 in
set_option maxHeartbeats 40000000 in
theorem own_cdr2 (l : Launch) (Z : State) (a0 : Array Value) (hw : ∀ d ∈ tables_1, d.before a0 Z = true) (b1 : Addr) (kb : ClassId) (x0 x1 : Int32) (h0 : Heap) (n0 : Nat) (VB : Arv Z h0 b1 kb .byte (4 : Int32) [.int (StrChars.lo8 x0), .int (StrChars.hi8 x0), .int (StrChars.lo8 x1), .int (StrChars.hi8 x1)] (.int (0 : Int32))) :
    own_Met l (⟨"java/lang/StringUTF16", "coderFromArrayLen", "([BI)B"⟩ : MethodName) jdk_52_method_15_code 2 (some .byte) ({ frames := 0, cells := 0, slots := 0, locals := 0 } : Room) Z #[(.ref b1), (.int (2 : Int32))] h0 (fun v h L => v = some (.int (1 : Int32)) ∧ Fr n0 L ∧ h = h0) := by
  refine own_met (plainFor_of_name own_pn_java_lang_StringUTF16) ?_
  intro p e s m below meth c T0 hx hby hml hZ hown hnm hret hlocks X0 e0 hh0
  have ef : entryFrame m #[(.ref b1), (.int (2 : Int32))] 2 = mkF m 0 #[.val (.ref b1), .val (.int (2 : Int32))] [] := by first | (simp [entryFrame, mkF, argsToLocals, Value.category]; done) | rfl
  refine own_entry ef ?_
  have N0 := Fr.nil n0
  refine own_iloadN X0 hx (hb hby own_d_jdk_52_method_15_code_0) rfl rfl ?_
  refine own_aloadN X0 hx (hb hby own_d_jdk_52_method_15_code_1) rfl rfl rfl ?_
  refine own_arraylength X0 hx hZ e0 VB (hb hby own_d_jdk_52_method_15_code_2) rfl ?_
  refine own_isub X0 hx (hb hby own_d_jdk_52_method_15_code_3) rfl ?_
  rw [show ((2 : Int32) - (4 : Int32)) = (-2 : Int32) from by decide]
  refine own_bipush X0 hx (31 : Int32) (hb hby own_d_jdk_52_method_15_code_4) (by decide) rfl ?_
  refine own_iushr X0 hx (hb hby own_d_jdk_52_method_15_code_6) rfl ?_
  rw [show (own_ushr (-2 : Int32) (31 : Int32)) = (1 : Int32) from by decide]
  refine own_i2b X0 hx (hb hby own_d_jdk_52_method_15_code_7) rfl ?_
  rw [show ((1 : Int32).toInt8.toInt32) = (1 : Int32) from by decide]
  exact own_retN X0 hx hlocks hret (by simp) (hb hby own_d_jdk_52_method_15_code_8) (by decide) (by decide) (by decide) ⟨rfl, N0, e0⟩
set_option maxRecDepth 65536 in
set_option maxHeartbeats 40000000 in
theorem own_wi2 (l : Launch) (Z : State) (a0 : Array Value) (hw : ∀ d ∈ tables_1, d.before a0 Z = true) (a1 : Addr) (zc : Int32) (c1 : Addr) (kc : ClassId) (x0 x1 : Int32) (h0 : Heap) (n0 : Nat) (O0 : Old Z n0 h0) (SC : Sta Z Z.heap "java/lang/String" "COMPACT_STRINGS" "Z" (.int zc)) (hzc : ¬ zc = 0) (SA : Sta Z Z.heap "java/lang/StringUTF16" "$assertionsDisabled" "Z" (.int (1 : Int32))) (SH : Sta Z Z.heap "java/lang/StringUTF16" "HI_BYTE_SHIFT" "I" (.int (0 : Int32))) (SL : Sta Z Z.heap "java/lang/StringUTF16" "LO_BYTE_SHIFT" "I" (.int (8 : Int32))) (hx0 : ¬ x0 < 0 ∧ ¬ (65535 : Int32) < x0) (hx1 : ¬ x1 < 0 ∧ ¬ (65535 : Int32) < x1) (g_a1 : n0 ≤ a1) (E0 : Exa Z h0 a1 "java/lang/String") (F1 : Fld Z h0 a1 "java/lang/String" "value" "[B" .null) (F2 : Fld Z h0 a1 "java/lang/String" "coder" "B" (.int (0 : Int32))) (VC : Arv Z h0 c1 kc .char (2 : Int32) [.int x0, .int x1] (.int (0 : Int32))) (HB : (255 : Int32) < x0 ∨ (255 : Int32) < x1) :
    own_Met l (⟨"java/lang/String", "<init>", "([CIILjava/lang/Void;)V"⟩ : MethodName) jdk_42_method_149_code 6 none ({ frames := 4, cells := 2, slots := 6, locals := 57 } : Room) Z #[(.ref a1), (.ref c1), (.int (0 : Int32)), (.int (2 : Int32)), .null] h0 (fun v h L => v = none ∧ Fr n0 L ∧ Keep h0 h [a1] ∧ own_Str Z h a1 [x0, x1]) := by
  refine own_met (plainFor_of_name own_pn_java_lang_String) ?_
  intro p e s m below meth c T0 hx hby hml hZ hown hnm hret hlocks X0 e0 hh0
  have ef : entryFrame m #[(.ref a1), (.ref c1), (.int (0 : Int32)), (.int (2 : Int32)), .null] 6 = mkF m 0 #[.val (.ref a1), .val (.ref c1), .val (.int (0 : Int32)), .val (.int (2 : Int32)), .val .null, .unset] [] := by first | (simp [entryFrame, mkF, argsToLocals, Value.category]; done) | rfl
  refine own_entry ef ?_
  have N0 := Fr.nil n0
  have K0 := Keep.refl h0 [a1]
  have Z0 : n0 ≤ h0.size := O0.1 ▸ O0.2.1
  refine own_aloadN X0 hx (hb hby own_d_jdk_42_method_149_code_0) rfl rfl rfl ?_
  refine own_initO X0 hx hZ hown (hw _ (List.mem_of_getElem? (i := 21) rfl)) (hw _ (List.mem_of_getElem? (i := 22) rfl)) (hw _ (List.mem_of_getElem? (i := 23) rfl)) e0 (by rw [hml]; rfl) (hb hby own_d_jdk_42_method_149_code_1) 0 rfl (by decide) (by decide) rfl ?_
  intro T1 X1 e1
  refine own_iloadN X1 hx (hb hby own_d_jdk_42_method_149_code_4) rfl rfl ?_
  refine own_ifT X1 hx (hb hby own_d_jdk_42_method_149_code_5) (by decide) rfl (by decide) ?_
  refine own_getS X1 hx hZ hown (host := "") (Or.inl (hw _ (List.mem_of_getElem? (i := 43) rfl))) Via.refl e1 (SC.ext O0.2) (hb hby own_d_jdk_42_method_149_code_27) rfl ?_
  intro T2 X2 e2
  refine own_ifF X2 hx (hb hby own_d_jdk_42_method_149_code_30) rfl (feq hzc).1 ?_
  refine own_aloadN X2 hx (hb hby own_d_jdk_42_method_149_code_33) rfl rfl rfl ?_
  refine own_iloadN X2 hx (hb hby own_d_jdk_42_method_149_code_34) rfl rfl ?_
  refine own_iloadN X2 hx (hb hby own_d_jdk_42_method_149_code_35) rfl rfl ?_
  refine own_static X2 hx hZ (y := (⟨"java/lang/StringUTF16", "compress", "([CII)[B"⟩ : MethodName)) hown (hw _ (List.mem_of_getElem? (i := 50) rfl)) (hw _ (List.mem_of_getElem? (i := 51) rfl)) (hw _ (List.mem_of_getElem? (i := 52) rfl)) (hw _ (List.mem_of_getElem? (i := 53) rfl)) (by decide) e2 (by decide) (W := 0) (by decide) (by decide) (by decide) [(.ref c1), (.int (0 : Int32)), (.int (2 : Int32))] [] (by rw [hml]; rfl) (own_cmpo2 l Z a0 hw c1 _ x0 x1 h0 n0 O0 SA SH SL hx0 hx1 VC HB) own_pd4 rfl rfl rfl (hb hby own_d_jdk_42_method_149_code_36) rfl ?_
  intro v3 T3 L3 X3 hQ3
  obtain ⟨b3, k3, rfl, Nq3, Kq3, g_b3, sz_b3, V3⟩ := hQ3
  have sz_b3 := Nat.le_trans K0.1 sz_b3
  have N3 := Fr.app N0 Nq3
  have K4 := K0.trans Kq3 all0
  show own_Ends p e below _ (T3.setTop (mkF m 39 #[.val (.ref a1), .val (.ref c1), .val (.int (0 : Int32)), .val (.int (2 : Int32)), .val .null, .unset] [(.ref b3)]))
  refine own_astore X3 hx #[.val (.ref a1), .val (.ref c1), .val (.int (0 : Int32)), .val (.int (2 : Int32)), .val .null, .val (.ref b3)] (hb hby own_d_jdk_42_method_149_code_39) rfl rfl rfl ?_
  refine own_aloadN X3 hx (hb hby own_d_jdk_42_method_149_code_41) rfl rfl rfl ?_
  refine own_aload X3 hx (hb hby own_d_jdk_42_method_149_code_42) rfl rfl rfl ?_
  refine own_iloadN X3 hx (hb hby own_d_jdk_42_method_149_code_44) rfl rfl ?_
  refine own_static X3 hx hZ (y := (⟨"java/lang/StringUTF16", "coderFromArrayLen", "([BI)B"⟩ : MethodName)) hown (hw _ (List.mem_of_getElem? (i := 57) rfl)) (hw _ (List.mem_of_getElem? (i := 58) rfl)) (hw _ (List.mem_of_getElem? (i := 52) rfl)) (hw _ (List.mem_of_getElem? (i := 59) rfl)) (by decide) rfl (by decide) (W := 1) (by decide) (by decide) (by decide) [(.ref b3), (.int (2 : Int32))] [(.ref a1)] (by rw [hml]; rfl) (own_cdr2 l Z a0 hw b3 _ x0 x1 T3.heap n0 V3) own_pd6 rfl rfl rfl (hb hby own_d_jdk_42_method_149_code_45) rfl ?_
  intro v5 T5 L5 X5 hQ5
  obtain ⟨rfl, Nq5, hh5⟩ := hQ5
  have N5 := Fr.app N3 Nq5
  show own_Ends p e below _ (T5.setTop (mkF m 48 #[.val (.ref a1), .val (.ref c1), .val (.int (0 : Int32)), .val (.int (2 : Int32)), .val .null, .val (.ref b3)] [(.int (1 : Int32)), (.ref a1)]))
  have f6 := (F2.keep Kq3 nin0)
  have f7 := (E0.keep Kq3)
  refine own_putFN X5 hx hZ hown (hw _ (List.mem_of_getElem? (i := 31) rfl)) Via.refl hh5 (.int (1 : Int32)) f6 f7 (Or.inr ⟨(hw _ (List.mem_of_getElem? (i := 27) rfl)), rfl, hnm⟩) (hw _ (List.mem_of_getElem? (i := 11) rfl)) (ty := .byte) (by decide) rfl rfl N5 g_a1 (hb hby own_d_jdk_42_method_149_code_48) rfl ?_
  intro T8 h8 X8 e8 W8 N8
  have K9 := K4.wr W8 (Or.inl (List.mem_of_getElem? (i := 0) rfl))
  have f10 := f6.same W8
  refine own_aloadN X8 hx (hb hby own_d_jdk_42_method_149_code_51) rfl rfl rfl ?_
  refine own_aload X8 hx (hb hby own_d_jdk_42_method_149_code_52) rfl rfl rfl ?_
  have f11 := ((F1.keep Kq3 nin0).other W8 (Or.inr (slot_ne (Or.inr (hw _ (List.mem_of_getElem? (i := 26) rfl))) (Or.inr (hw _ (List.mem_of_getElem? (i := 27) rfl))) (by decide) (t := (.array .byte)) (t' := .byte) (by decide) (by decide))))
  have f12 := (f7.wr W8)
  refine own_putF X8 hx hZ hown (host := "") (Or.inl (hw _ (List.mem_of_getElem? (i := 30) rfl))) Via.refl e8 f11 f12 (Or.inr ⟨(hw _ (List.mem_of_getElem? (i := 26) rfl)), rfl, hnm⟩) (hw _ (List.mem_of_getElem? (i := 11) rfl)) (ty := (.array .byte)) (by decide) rfl rfl N8 g_a1 (hb hby own_d_jdk_42_method_149_code_54) rfl ?_
  intro T13 h13 X13 e13 W13 N13
  have K14 := K9.wr W13 (Or.inl (List.mem_of_getElem? (i := 0) rfl))
  have f15 := f11.same W13
  have f16 := (f12.wr W13)
  have f17 := (f10.other W13 (Or.inr (slot_ne (Or.inr (hw _ (List.mem_of_getElem? (i := 27) rfl))) (Or.inr (hw _ (List.mem_of_getElem? (i := 26) rfl))) (by decide) (t := .byte) (t' := (.array .byte)) (by decide) (by decide))))
  have f18 := ((V3.other W8 (Ne.symm (Exa.neArv f7 V3 (hw _ (List.mem_of_getElem? (i := 11) rfl))))).other W13 (Ne.symm (Exa.neArv f7 V3 (hw _ (List.mem_of_getElem? (i := 11) rfl)))))
  exact own_ret X13 hx hlocks hret (hb hby own_d_jdk_42_method_149_code_57) (by decide) (by decide) ⟨rfl, N13, by rw [e13]; exact ⟨K14, _, _, _, _, _, f16, f15, f17, f18, Or.inr ⟨rfl, rfl, rfl, (by rcases HB with hb | hb <;> first | exact ⟨x0, List.mem_of_getElem? (i := 0) rfl, hb⟩ | exact ⟨x1, List.mem_of_getElem? (i := 1) rfl, hb⟩)⟩, (own_c2 hx0 (own_c2 hx1 own_c0)), (Nat.le_of_ble_eq_true rfl)⟩⟩
set_option maxRecDepth 65536 in
set_option maxHeartbeats 40000000 in
theorem own_wd2 (l : Launch) (Z : State) (a0 : Array Value) (hw : ∀ d ∈ tables_1, d.before a0 Z = true) (a1 : Addr) (zc : Int32) (c1 : Addr) (kc : ClassId) (x0 x1 : Int32) (h0 : Heap) (n0 : Nat) (O0 : Old Z n0 h0) (SC : Sta Z Z.heap "java/lang/String" "COMPACT_STRINGS" "Z" (.int zc)) (hzc : ¬ zc = 0) (SA : Sta Z Z.heap "java/lang/StringUTF16" "$assertionsDisabled" "Z" (.int (1 : Int32))) (SH : Sta Z Z.heap "java/lang/StringUTF16" "HI_BYTE_SHIFT" "I" (.int (0 : Int32))) (SL : Sta Z Z.heap "java/lang/StringUTF16" "LO_BYTE_SHIFT" "I" (.int (8 : Int32))) (hx0 : ¬ x0 < 0 ∧ ¬ (65535 : Int32) < x0) (hx1 : ¬ x1 < 0 ∧ ¬ (65535 : Int32) < x1) (g_a1 : n0 ≤ a1) (E0 : Exa Z h0 a1 "java/lang/String") (F1 : Fld Z h0 a1 "java/lang/String" "value" "[B" .null) (F2 : Fld Z h0 a1 "java/lang/String" "coder" "B" (.int (0 : Int32))) (VC : Arv Z h0 c1 kc .char (2 : Int32) [.int x0, .int x1] (.int (0 : Int32))) (HB : (255 : Int32) < x0 ∨ (255 : Int32) < x1) :
    own_Met l (⟨"java/lang/String", "<init>", "([C)V"⟩ : MethodName) jdk_42_method_3_code 2 none ({ frames := 5, cells := 2, slots := 6, locals := 74 } : Room) Z #[(.ref a1), (.ref c1)] h0 (fun v h L => v = none ∧ Fr n0 L ∧ Keep h0 h [a1] ∧ own_Str Z h a1 [x0, x1]) := by
  refine own_met (plainFor_of_name own_pn_java_lang_String) ?_
  intro p e s m below meth c T0 hx hby hml hZ hown hnm hret hlocks X0 e0 hh0
  have ef : entryFrame m #[(.ref a1), (.ref c1)] 2 = mkF m 0 #[.val (.ref a1), .val (.ref c1)] [] := by first | (simp [entryFrame, mkF, argsToLocals, Value.category]; done) | rfl
  refine own_entry ef ?_
  have N0 := Fr.nil n0
  have K0 := Keep.refl h0 [a1]
  have Z0 : n0 ≤ h0.size := O0.1 ▸ O0.2.1
  refine own_aloadN X0 hx (hb hby own_d_jdk_42_method_3_code_0) rfl rfl rfl ?_
  refine own_aloadN X0 hx (hb hby own_d_jdk_42_method_3_code_1) rfl rfl rfl ?_
  refine own_iconst X0 hx (0 : Int32) (hb hby own_d_jdk_42_method_3_code_2) (by decide) rfl ?_
  refine own_aloadN X0 hx (hb hby own_d_jdk_42_method_3_code_3) rfl rfl rfl ?_
  refine own_arraylength X0 hx hZ e0 VC (hb hby own_d_jdk_42_method_3_code_4) rfl ?_
  refine own_aconst_null X0 hx (hb hby own_d_jdk_42_method_3_code_5) rfl ?_
  refine own_special X0 hx hZ (y := (⟨"java/lang/String", "<init>", "([CIILjava/lang/Void;)V"⟩ : MethodName)) rfl hown (hw _ (List.mem_of_getElem? (i := 17) rfl)) (hw _ (List.mem_of_getElem? (i := 18) rfl)) (hw _ (List.mem_of_getElem? (i := 12) rfl)) (hw _ (List.mem_of_getElem? (i := 20) rfl)) (by decide) e0 (by decide) (W := 0) (by decide) (by decide) (by decide) [(.ref c1), (.int (0 : Int32)), (.int (2 : Int32)), .null] [] (by rw [hml]; rfl) (a := a1) (own_wi2 l Z a0 hw a1 zc c1 _ x0 x1 h0 n0 O0 SC hzc SA SH SL hx0 hx1 g_a1 E0 F1 F2 VC HB) own_pd7 rfl rfl rfl (hb hby own_d_jdk_42_method_3_code_6) rfl ?_
  intro v1 T1 L1 X1 hQ1
  obtain ⟨rfl, Nq1, Kq1, Ss1⟩ := hQ1
  have N1 := Fr.app N0 Nq1
  have K2 := K0.trans Kq1 (allS (Or.inl (List.mem_of_getElem? (i := 0) rfl)) all0)
  show own_Ends p e below _ (T1.setTop (mkF m 9 #[.val (.ref a1), .val (.ref c1)] []))
  exact own_ret X1 hx hlocks hret (hb hby own_d_jdk_42_method_3_code_9) (by decide) (by decide) ⟨rfl, N1, K2, Ss1⟩
theorem own_wideOr2 (x0 x1 : Int32) : (¬ (255 : Int32) < x0 ∧ ¬ (255 : Int32) < x1) ∨ ((255 : Int32) < x0 ∨ (255 : Int32) < x1) := by
  by_cases hb0 : (255 : Int32) < x0
  · exact Or.inr (Or.inl hb0)
  by_cases hb1 : (255 : Int32) < x1
  · exact Or.inr (Or.inr (hb1))
  exact Or.inl ⟨hb0, hb1⟩
set_option maxRecDepth 65536 in
set_option maxHeartbeats 40000000 in
theorem own_nbl3 (l : Launch) (Z : State) (a0 : Array Value) (hw : ∀ d ∈ tables_1, d.before a0 Z = true)  (h0 : Heap) (n0 : Nat)  :
    own_Met l (⟨"java/lang/StringUTF16", "newBytesLength", "(I)I"⟩ : MethodName) jdk_52_method_3_code 1 (some .int) ({ frames := 0, cells := 0, slots := 0, locals := 0 } : Room) Z #[(.int (3 : Int32))] h0 (fun v h L => v = some (.int (6 : Int32)) ∧ Fr n0 L ∧ h = h0) := by
  refine own_met (plainFor_of_name own_pn_java_lang_StringUTF16) ?_
  intro p e s m below meth c T0 hx hby hml hZ hown hnm hret hlocks X0 e0 hh0
  have ef : entryFrame m #[(.int (3 : Int32))] 1 = mkF m 0 #[.val (.int (3 : Int32))] [] := by first | (simp [entryFrame, mkF, argsToLocals, Value.category]; done) | rfl
  refine own_entry ef ?_
  have N0 := Fr.nil n0
  refine own_iloadN X0 hx (hb hby own_d_jdk_52_method_3_code_0) rfl rfl ?_
  refine own_ifT X0 hx (hb hby own_d_jdk_52_method_3_code_1) (by decide) rfl (by decide) ?_
  refine own_iloadN X0 hx (hb hby own_d_jdk_52_method_3_code_12) rfl rfl ?_
  refine own_ldcInt X0 hx hZ hown (hw _ (List.mem_of_getElem? (i := 69) rfl)) (hb hby own_d_jdk_52_method_3_code_13) rfl ?_
  refine own_icmpT X0 hx (hb hby own_d_jdk_52_method_3_code_15) (by decide) rfl (by decide) ?_
  refine own_iloadN X0 hx (hb hby own_d_jdk_52_method_3_code_55) rfl rfl ?_
  refine own_iconst X0 hx (1 : Int32) (hb hby own_d_jdk_52_method_3_code_56) (by decide) rfl ?_
  refine own_ishl X0 hx (hb hby own_d_jdk_52_method_3_code_57) rfl ?_
  rw [show ((3 : Int32) <<< ((1 : Int32) &&& 31)) = (6 : Int32) from by decide]
  exact own_retI X0 hx hlocks hret (hb hby own_d_jdk_52_method_3_code_58) (by decide) (by decide) ⟨rfl, N0, e0⟩
set_option maxRecDepth 65536 in
set_option maxHeartbeats 40000000 in
theorem own_nbf3 (l : Launch) (Z : State) (a0 : Array Value) (hw : ∀ d ∈ tables_1, d.before a0 Z = true)  (h0 : Heap) (n0 : Nat) (O0 : Old Z n0 h0) :
    own_Met l (⟨"java/lang/StringUTF16", "newBytesFor", "(I)[B"⟩ : MethodName) jdk_52_method_2_code 1 (some (.array .byte)) ({ frames := 1, cells := 1, slots := 6, locals := 12 } : Room) Z #[(.int (3 : Int32))] h0 (fun v h L => ∃ (b : Addr) (k : ClassId), v = some (.ref b) ∧ Fr n0 L ∧ Keep h0 h [] ∧ n0 ≤ b ∧ h0.size ≤ b ∧ Arv Z h b k .byte (6 : Int32) [.int (0 : Int32), .int (0 : Int32), .int (0 : Int32), .int (0 : Int32), .int (0 : Int32), .int (0 : Int32)] (.int (0 : Int32))) := by
  refine own_met (plainFor_of_name own_pn_java_lang_StringUTF16) ?_
  intro p e s m below meth c T0 hx hby hml hZ hown hnm hret hlocks X0 e0 hh0
  have ef : entryFrame m #[(.int (3 : Int32))] 1 = mkF m 0 #[.val (.int (3 : Int32))] [] := by first | (simp [entryFrame, mkF, argsToLocals, Value.category]; done) | rfl
  refine own_entry ef ?_
  have N0 := Fr.nil n0
  have K0 := Keep.refl h0 []
  have Z0 : n0 ≤ h0.size := O0.1 ▸ O0.2.1
  refine own_iloadN X0 hx (hb hby own_d_jdk_52_method_2_code_0) rfl rfl ?_
  refine own_static X0 hx hZ (y := (⟨"java/lang/StringUTF16", "newBytesLength", "(I)I"⟩ : MethodName)) hown (hw _ (List.mem_of_getElem? (i := 66) rfl)) (hw _ (List.mem_of_getElem? (i := 67) rfl)) (hw _ (List.mem_of_getElem? (i := 52) rfl)) (hw _ (List.mem_of_getElem? (i := 68) rfl)) (by decide) e0 (by decide) (W := 0) (by decide) (by decide) (by decide) [(.int (3 : Int32))] [] (by rw [hml]; rfl) (own_nbl3 l Z a0 hw h0 n0) own_pd0 rfl rfl rfl (hb hby own_d_jdk_52_method_2_code_1) rfl ?_
  intro v1 T1 L1 X1 hQ1
  obtain ⟨rfl, Nq1, hh1⟩ := hQ1
  have N1 := Fr.app N0 Nq1
  show own_Ends p e below _ (T1.setTop (mkF m 4 #[.val (.int (3 : Int32))] [(.int (6 : Int32))]))
  refine own_newP X1 hx hZ (aty := .byte) (hw _ (List.mem_of_getElem? (i := 25) rfl)) hh1 (hb hby own_d_jdk_52_method_2_code_4) (by decide) 6 (by decide) (by decide) (by decide) (by decide) rfl ?_
  intro T2 h2 b2 k2 X2 e2 g2 E2 V2q
  have g_b2 : n0 ≤ b2 := Nat.le_trans (own_oz O0) (Nat.le_of_eq g2.symm)
  have sz_b2 : h0.size ≤ b2 := Nat.le_trans K0.1 (Nat.le_of_eq g2.symm)
  have K3 := K0.ext E2
  have V2 : Arv Z h2 b2 k2 .byte (6 : Int32) [(.int (0 : Int32)), (.int (0 : Int32)), (.int (0 : Int32)), (.int (0 : Int32)), (.int (0 : Int32)), (.int (0 : Int32))] (.int (0 : Int32)) := Arv.pad V2q (pad_rep [] (.int (0 : Int32)) 6)
  exact own_retA X2 hx hlocks hret rfl rfl (hb hby own_d_jdk_52_method_2_code_6) (by decide) (by decide) ⟨b2, _, rfl, N1, by rw [e2]; exact ⟨K3, g_b2, sz_b2, V2⟩⟩
set_option maxRecDepth 65536 in
set_option maxHeartbeats 40000000 in
theorem own_put3_0 (l : Launch) (Z : State) (a0 : Array Value) (hw : ∀ d ∈ tables_1, d.before a0 Z = true) (b1 : Addr) (kb : ClassId) (ch y0 y1 y2 y3 y4 y5 : Int32) (h0 : Heap) (n0 : Nat) (O0 : Old Z n0 h0) (SA : Sta Z Z.heap "java/lang/StringUTF16" "$assertionsDisabled" "Z" (.int (1 : Int32))) (SH : Sta Z Z.heap "java/lang/StringUTF16" "HI_BYTE_SHIFT" "I" (.int (0 : Int32))) (SL : Sta Z Z.heap "java/lang/StringUTF16" "LO_BYTE_SHIFT" "I" (.int (8 : Int32))) (g_b1 : n0 ≤ b1) (V0 : Arv Z h0 b1 kb .byte (6 : Int32) [.int y0, .int y1, .int y2, .int y3, .int y4, .int y5] (.int (0 : Int32))) :
    own_Met l (⟨"java/lang/StringUTF16", "putChar", "([BII)V"⟩ : MethodName) jdk_52_method_4_code 3 none ({ frames := 0, cells := 0, slots := 0, locals := 0 } : Room) Z #[(.ref b1), (.int (0 : Int32)), (.int ch)] h0 (fun v h L => v = none ∧ Fr n0 L ∧ Keep h0 h [b1] ∧ Arv Z h b1 kb .byte (6 : Int32) [.int (StrChars.lo8 ch), .int (StrChars.hi8 ch), .int y2, .int y3, .int y4, .int y5] (.int (0 : Int32))) := by
  refine own_met (plainFor_of_name own_pn_java_lang_StringUTF16) ?_
  intro p e s m below meth c T0 hx hby hml hZ hown hnm hret hlocks X0 e0 hh0
  have ef : entryFrame m #[(.ref b1), (.int (0 : Int32)), (.int ch)] 3 = mkF m 0 #[.val (.ref b1), .val (.int (0 : Int32)), .val (.int ch)] [] := by first | (simp [entryFrame, mkF, argsToLocals, Value.category]; done) | rfl
  refine own_entry ef ?_
  have N0 := Fr.nil n0
  have K0 := Keep.refl h0 [b1]
  have Z0 : n0 ≤ h0.size := O0.1 ▸ O0.2.1
  refine own_getS X0 hx hZ hown (host := "") (Or.inl (hw _ (List.mem_of_getElem? (i := 73) rfl))) Via.refl e0 (SA.ext O0.2) (hb hby own_d_jdk_52_method_4_code_0) rfl ?_
  intro T1 X1 e1
  refine own_ifT X1 hx (hb hby own_d_jdk_52_method_4_code_3) (by decide) rfl (by decide) ?_
  refine own_iloadN X1 hx (hb hby own_d_jdk_52_method_4_code_28) rfl rfl ?_
  refine own_iconst X1 hx (1 : Int32) (hb hby own_d_jdk_52_method_4_code_29) (by decide) rfl ?_
  refine own_ishl X1 hx (hb hby own_d_jdk_52_method_4_code_30) rfl ?_
  rw [show ((0 : Int32) <<< ((1 : Int32) &&& 31)) = (0 : Int32) from by decide]
  refine own_istoreN X1 hx #[.val (.ref b1), .val (.int (0 : Int32)), .val (.int ch)] (hb hby own_d_jdk_52_method_4_code_31) rfl rfl ?_
  refine own_aloadN X1 hx (hb hby own_d_jdk_52_method_4_code_32) rfl rfl rfl ?_
  refine own_iloadN X1 hx (hb hby own_d_jdk_52_method_4_code_33) rfl rfl ?_
  refine own_iinc X1 hx #[.val (.ref b1), .val (.int (1 : Int32)), .val (.int ch)] (hb hby own_d_jdk_52_method_4_code_34) rfl rfl rfl ?_
  refine own_iloadN X1 hx (hb hby own_d_jdk_52_method_4_code_37) rfl rfl ?_
  refine own_getS X1 hx hZ hown (host := "") (Or.inl (hw _ (List.mem_of_getElem? (i := 74) rfl))) Via.refl e1 (SH.ext O0.2) (hb hby own_d_jdk_52_method_4_code_38) rfl ?_
  intro T2 X2 e2
  refine own_ishr X2 hx (hb hby own_d_jdk_52_method_4_code_41) rfl ?_
  refine own_i2b X2 hx (hb hby own_d_jdk_52_method_4_code_42) rfl ?_
  rw [show ((ch >>> ((0 : Int32) &&& 31)).toInt8.toInt32) = (StrChars.lo8 ch) from own_lo0 ch]
  refine own_stB X2 hx hZ e2 V0 ⟨by decide, by decide⟩ 0 rfl (Nat.le_of_ble_eq_true rfl) (own_lo8L ch) N0 g_b1 (hb hby own_d_jdk_52_method_4_code_43) rfl ?_
  intro T3 h3 X3 e3 W3 N3 V3
  have K4 := K0.wr W3 (Or.inl (List.mem_of_getElem? (i := 0) rfl))
  refine own_aloadN X3 hx (hb hby own_d_jdk_52_method_4_code_44) rfl rfl rfl ?_
  refine own_iloadN X3 hx (hb hby own_d_jdk_52_method_4_code_45) rfl rfl ?_
  refine own_iloadN X3 hx (hb hby own_d_jdk_52_method_4_code_46) rfl rfl ?_
  have f5 := (O0.wr W3 g_b1)
  refine own_getS X3 hx hZ hown (host := "") (Or.inl (hw _ (List.mem_of_getElem? (i := 75) rfl))) Via.refl e3 (SL.ext f5.2) (hb hby own_d_jdk_52_method_4_code_47) rfl ?_
  intro T6 X6 e6
  refine own_ishr X6 hx (hb hby own_d_jdk_52_method_4_code_50) rfl ?_
  refine own_i2b X6 hx (hb hby own_d_jdk_52_method_4_code_51) rfl ?_
  rw [show ((ch >>> ((8 : Int32) &&& 31)).toInt8.toInt32) = (StrChars.hi8 ch) from rfl]
  refine own_stB X6 hx hZ e6 V3 ⟨by decide, by decide⟩ 1 rfl (Nat.le_of_ble_eq_true rfl) (own_lo8H ch) N3 g_b1 (hb hby own_d_jdk_52_method_4_code_52) rfl ?_
  intro T7 h7 X7 e7 W7 N7 V7
  have K8 := K4.wr W7 (Or.inl (List.mem_of_getElem? (i := 0) rfl))
  exact own_ret X7 hx hlocks hret (hb hby own_d_jdk_52_method_4_code_53) (by decide) (by decide) ⟨rfl, N7, by rw [e7]; exact ⟨K8, V7⟩⟩
set_option maxRecDepth 65536 in
set_option maxHeartbeats 40000000 in
theorem own_get3_0 (l : Launch) (Z : State) (a0 : Array Value) (hw : ∀ d ∈ tables_1, d.before a0 Z = true) (b1 : Addr) (kb : ClassId) (x0 x1 x2 : Int32) (h0 : Heap) (n0 : Nat) (O0 : Old Z n0 h0) (SA : Sta Z Z.heap "java/lang/StringUTF16" "$assertionsDisabled" "Z" (.int (1 : Int32))) (SH : Sta Z Z.heap "java/lang/StringUTF16" "HI_BYTE_SHIFT" "I" (.int (0 : Int32))) (SL : Sta Z Z.heap "java/lang/StringUTF16" "LO_BYTE_SHIFT" "I" (.int (8 : Int32))) (hx0 : ¬ x0 < 0 ∧ ¬ (65535 : Int32) < x0) (hx1 : ¬ x1 < 0 ∧ ¬ (65535 : Int32) < x1) (hx2 : ¬ x2 < 0 ∧ ¬ (65535 : Int32) < x2) (V0 : Arv Z h0 b1 kb .byte (6 : Int32) [.int (StrChars.lo8 x0), .int (StrChars.hi8 x0), .int (StrChars.lo8 x1), .int (StrChars.hi8 x1), .int (StrChars.lo8 x2), .int (StrChars.hi8 x2)] (.int (0 : Int32))) :
    own_Met l (⟨"java/lang/StringUTF16", "getChar", "([BI)C"⟩ : MethodName) jdk_52_method_5_code 2 (some .char) ({ frames := 0, cells := 0, slots := 0, locals := 0 } : Room) Z #[(.ref b1), (.int (0 : Int32))] h0 (fun v h L => v = some (.int x0) ∧ Fr n0 L ∧ h = h0) := by
  refine own_met (plainFor_of_name own_pn_java_lang_StringUTF16) ?_
  intro p e s m below meth c T0 hx hby hml hZ hown hnm hret hlocks X0 e0 hh0
  have ef : entryFrame m #[(.ref b1), (.int (0 : Int32))] 2 = mkF m 0 #[.val (.ref b1), .val (.int (0 : Int32))] [] := by first | (simp [entryFrame, mkF, argsToLocals, Value.category]; done) | rfl
  refine own_entry ef ?_
  have N0 := Fr.nil n0
  have K0 := Keep.refl h0 []
  have Z0 : n0 ≤ h0.size := O0.1 ▸ O0.2.1
  refine own_getS X0 hx hZ hown (host := "") (Or.inl (hw _ (List.mem_of_getElem? (i := 73) rfl))) Via.refl e0 (SA.ext O0.2) (hb hby own_d_jdk_52_method_5_code_0) rfl ?_
  intro T1 X1 e1
  refine own_ifT X1 hx (hb hby own_d_jdk_52_method_5_code_3) (by decide) rfl (by decide) ?_
  refine own_iloadN X1 hx (hb hby own_d_jdk_52_method_5_code_28) rfl rfl ?_
  refine own_iconst X1 hx (1 : Int32) (hb hby own_d_jdk_52_method_5_code_29) (by decide) rfl ?_
  refine own_ishl X1 hx (hb hby own_d_jdk_52_method_5_code_30) rfl ?_
  rw [show ((0 : Int32) <<< ((1 : Int32) &&& 31)) = (0 : Int32) from by decide]
  refine own_istoreN X1 hx #[.val (.ref b1), .val (.int (0 : Int32))] (hb hby own_d_jdk_52_method_5_code_31) rfl rfl ?_
  refine own_aloadN X1 hx (hb hby own_d_jdk_52_method_5_code_32) rfl rfl rfl ?_
  refine own_iloadN X1 hx (hb hby own_d_jdk_52_method_5_code_33) rfl rfl ?_
  refine own_iinc X1 hx #[.val (.ref b1), .val (.int (1 : Int32))] (hb hby own_d_jdk_52_method_5_code_34) rfl rfl rfl ?_
  refine own_baloadBytes X1 hx hZ e1 V0 ⟨by decide, by decide⟩ rfl (hb hby own_d_jdk_52_method_5_code_37) rfl ?_
  refine own_sipush X1 hx (255 : Int32) (hb hby own_d_jdk_52_method_5_code_38) (by decide) rfl ?_
  refine own_iand X1 hx (hb hby own_d_jdk_52_method_5_code_41) rfl ?_
  refine own_getS X1 hx hZ hown (host := "") (Or.inl (hw _ (List.mem_of_getElem? (i := 74) rfl))) Via.refl e1 (SH.ext O0.2) (hb hby own_d_jdk_52_method_5_code_42) rfl ?_
  intro T2 X2 e2
  refine own_ishl X2 hx (hb hby own_d_jdk_52_method_5_code_45) rfl ?_
  refine own_aloadN X2 hx (hb hby own_d_jdk_52_method_5_code_46) rfl rfl rfl ?_
  refine own_iloadN X2 hx (hb hby own_d_jdk_52_method_5_code_47) rfl rfl ?_
  refine own_baloadBytes X2 hx hZ e2 V0 ⟨by decide, by decide⟩ rfl (hb hby own_d_jdk_52_method_5_code_48) rfl ?_
  refine own_sipush X2 hx (255 : Int32) (hb hby own_d_jdk_52_method_5_code_49) (by decide) rfl ?_
  refine own_iand X2 hx (hb hby own_d_jdk_52_method_5_code_52) rfl ?_
  refine own_getS X2 hx hZ hown (host := "") (Or.inl (hw _ (List.mem_of_getElem? (i := 75) rfl))) Via.refl e2 (SL.ext O0.2) (hb hby own_d_jdk_52_method_5_code_53) rfl ?_
  intro T3 X3 e3
  refine own_ishl X3 hx (hb hby own_d_jdk_52_method_5_code_56) rfl ?_
  refine own_ior X3 hx (hb hby own_d_jdk_52_method_5_code_57) rfl ?_
  refine own_i2c X3 hx (hb hby own_d_jdk_52_method_5_code_58) rfl ?_
  rw [show (((((StrChars.lo8 x0) &&& (255 : Int32)) <<< ((0 : Int32) &&& 31)) ||| (((StrChars.hi8 x0) &&& (255 : Int32)) <<< ((8 : Int32) &&& 31))).toUInt32.toUInt16.toUInt32.toInt32) = x0 from StrChars.pair_says hx0.1 hx0.2]
  exact own_retN X3 hx hlocks hret (by simp) (hb hby own_d_jdk_52_method_5_code_59) (by decide) (by decide) (own_narC2 hx0) ⟨rfl, N0, e3⟩
set_option maxRecDepth 65536 in
set_option maxHeartbeats 40000000 in
theorem own_put3_1 (l : Launch) (Z : State) (a0 : Array Value) (hw : ∀ d ∈ tables_1, d.before a0 Z = true) (b1 : Addr) (kb : ClassId) (ch y0 y1 y2 y3 y4 y5 : Int32) (h0 : Heap) (n0 : Nat) (O0 : Old Z n0 h0) (SA : Sta Z Z.heap "java/lang/StringUTF16" "$assertionsDisabled" "Z" (.int (1 : Int32))) (SH : Sta Z Z.heap "java/lang/StringUTF16" "HI_BYTE_SHIFT" "I" (.int (0 : Int32))) (SL : Sta Z Z.heap "java/lang/StringUTF16" "LO_BYTE_SHIFT" "I" (.int (8 : Int32))) (g_b1 : n0 ≤ b1) (V0 : Arv Z h0 b1 kb .byte (6 : Int32) [.int y0, .int y1, .int y2, .int y3, .int y4, .int y5] (.int (0 : Int32))) :
    own_Met l (⟨"java/lang/StringUTF16", "putChar", "([BII)V"⟩ : MethodName) jdk_52_method_4_code 3 none ({ frames := 0, cells := 0, slots := 0, locals := 0 } : Room) Z #[(.ref b1), (.int (1 : Int32)), (.int ch)] h0 (fun v h L => v = none ∧ Fr n0 L ∧ Keep h0 h [b1] ∧ Arv Z h b1 kb .byte (6 : Int32) [.int y0, .int y1, .int (StrChars.lo8 ch), .int (StrChars.hi8 ch), .int y4, .int y5] (.int (0 : Int32))) := by
  refine own_met (plainFor_of_name own_pn_java_lang_StringUTF16) ?_
  intro p e s m below meth c T0 hx hby hml hZ hown hnm hret hlocks X0 e0 hh0
  have ef : entryFrame m #[(.ref b1), (.int (1 : Int32)), (.int ch)] 3 = mkF m 0 #[.val (.ref b1), .val (.int (1 : Int32)), .val (.int ch)] [] := by first | (simp [entryFrame, mkF, argsToLocals, Value.category]; done) | rfl
  refine own_entry ef ?_
  have N0 := Fr.nil n0
  have K0 := Keep.refl h0 [b1]
  have Z0 : n0 ≤ h0.size := O0.1 ▸ O0.2.1
  refine own_getS X0 hx hZ hown (host := "") (Or.inl (hw _ (List.mem_of_getElem? (i := 73) rfl))) Via.refl e0 (SA.ext O0.2) (hb hby own_d_jdk_52_method_4_code_0) rfl ?_
  intro T1 X1 e1
  refine own_ifT X1 hx (hb hby own_d_jdk_52_method_4_code_3) (by decide) rfl (by decide) ?_
  refine own_iloadN X1 hx (hb hby own_d_jdk_52_method_4_code_28) rfl rfl ?_
  refine own_iconst X1 hx (1 : Int32) (hb hby own_d_jdk_52_method_4_code_29) (by decide) rfl ?_
  refine own_ishl X1 hx (hb hby own_d_jdk_52_method_4_code_30) rfl ?_
  rw [show ((1 : Int32) <<< ((1 : Int32) &&& 31)) = (2 : Int32) from by decide]
  refine own_istoreN X1 hx #[.val (.ref b1), .val (.int (2 : Int32)), .val (.int ch)] (hb hby own_d_jdk_52_method_4_code_31) rfl rfl ?_
  refine own_aloadN X1 hx (hb hby own_d_jdk_52_method_4_code_32) rfl rfl rfl ?_
  refine own_iloadN X1 hx (hb hby own_d_jdk_52_method_4_code_33) rfl rfl ?_
  refine own_iinc X1 hx #[.val (.ref b1), .val (.int (3 : Int32)), .val (.int ch)] (hb hby own_d_jdk_52_method_4_code_34) rfl rfl rfl ?_
  refine own_iloadN X1 hx (hb hby own_d_jdk_52_method_4_code_37) rfl rfl ?_
  refine own_getS X1 hx hZ hown (host := "") (Or.inl (hw _ (List.mem_of_getElem? (i := 74) rfl))) Via.refl e1 (SH.ext O0.2) (hb hby own_d_jdk_52_method_4_code_38) rfl ?_
  intro T2 X2 e2
  refine own_ishr X2 hx (hb hby own_d_jdk_52_method_4_code_41) rfl ?_
  refine own_i2b X2 hx (hb hby own_d_jdk_52_method_4_code_42) rfl ?_
  rw [show ((ch >>> ((0 : Int32) &&& 31)).toInt8.toInt32) = (StrChars.lo8 ch) from own_lo0 ch]
  refine own_stB X2 hx hZ e2 V0 ⟨by decide, by decide⟩ 2 rfl (Nat.le_of_ble_eq_true rfl) (own_lo8L ch) N0 g_b1 (hb hby own_d_jdk_52_method_4_code_43) rfl ?_
  intro T3 h3 X3 e3 W3 N3 V3
  have K4 := K0.wr W3 (Or.inl (List.mem_of_getElem? (i := 0) rfl))
  refine own_aloadN X3 hx (hb hby own_d_jdk_52_method_4_code_44) rfl rfl rfl ?_
  refine own_iloadN X3 hx (hb hby own_d_jdk_52_method_4_code_45) rfl rfl ?_
  refine own_iloadN X3 hx (hb hby own_d_jdk_52_method_4_code_46) rfl rfl ?_
  have f5 := (O0.wr W3 g_b1)
  refine own_getS X3 hx hZ hown (host := "") (Or.inl (hw _ (List.mem_of_getElem? (i := 75) rfl))) Via.refl e3 (SL.ext f5.2) (hb hby own_d_jdk_52_method_4_code_47) rfl ?_
  intro T6 X6 e6
  refine own_ishr X6 hx (hb hby own_d_jdk_52_method_4_code_50) rfl ?_
  refine own_i2b X6 hx (hb hby own_d_jdk_52_method_4_code_51) rfl ?_
  rw [show ((ch >>> ((8 : Int32) &&& 31)).toInt8.toInt32) = (StrChars.hi8 ch) from rfl]
  refine own_stB X6 hx hZ e6 V3 ⟨by decide, by decide⟩ 3 rfl (Nat.le_of_ble_eq_true rfl) (own_lo8H ch) N3 g_b1 (hb hby own_d_jdk_52_method_4_code_52) rfl ?_
  intro T7 h7 X7 e7 W7 N7 V7
  have K8 := K4.wr W7 (Or.inl (List.mem_of_getElem? (i := 0) rfl))
  exact own_ret X7 hx hlocks hret (hb hby own_d_jdk_52_method_4_code_53) (by decide) (by decide) ⟨rfl, N7, by rw [e7]; exact ⟨K8, V7⟩⟩
set_option maxRecDepth 65536 in
set_option maxHeartbeats 40000000 in
theorem own_get3_1 (l : Launch) (Z : State) (a0 : Array Value) (hw : ∀ d ∈ tables_1, d.before a0 Z = true) (b1 : Addr) (kb : ClassId) (x0 x1 x2 : Int32) (h0 : Heap) (n0 : Nat) (O0 : Old Z n0 h0) (SA : Sta Z Z.heap "java/lang/StringUTF16" "$assertionsDisabled" "Z" (.int (1 : Int32))) (SH : Sta Z Z.heap "java/lang/StringUTF16" "HI_BYTE_SHIFT" "I" (.int (0 : Int32))) (SL : Sta Z Z.heap "java/lang/StringUTF16" "LO_BYTE_SHIFT" "I" (.int (8 : Int32))) (hx0 : ¬ x0 < 0 ∧ ¬ (65535 : Int32) < x0) (hx1 : ¬ x1 < 0 ∧ ¬ (65535 : Int32) < x1) (hx2 : ¬ x2 < 0 ∧ ¬ (65535 : Int32) < x2) (V0 : Arv Z h0 b1 kb .byte (6 : Int32) [.int (StrChars.lo8 x0), .int (StrChars.hi8 x0), .int (StrChars.lo8 x1), .int (StrChars.hi8 x1), .int (StrChars.lo8 x2), .int (StrChars.hi8 x2)] (.int (0 : Int32))) :
    own_Met l (⟨"java/lang/StringUTF16", "getChar", "([BI)C"⟩ : MethodName) jdk_52_method_5_code 2 (some .char) ({ frames := 0, cells := 0, slots := 0, locals := 0 } : Room) Z #[(.ref b1), (.int (1 : Int32))] h0 (fun v h L => v = some (.int x1) ∧ Fr n0 L ∧ h = h0) := by
  refine own_met (plainFor_of_name own_pn_java_lang_StringUTF16) ?_
  intro p e s m below meth c T0 hx hby hml hZ hown hnm hret hlocks X0 e0 hh0
  have ef : entryFrame m #[(.ref b1), (.int (1 : Int32))] 2 = mkF m 0 #[.val (.ref b1), .val (.int (1 : Int32))] [] := by first | (simp [entryFrame, mkF, argsToLocals, Value.category]; done) | rfl
  refine own_entry ef ?_
  have N0 := Fr.nil n0
  have K0 := Keep.refl h0 []
  have Z0 : n0 ≤ h0.size := O0.1 ▸ O0.2.1
  refine own_getS X0 hx hZ hown (host := "") (Or.inl (hw _ (List.mem_of_getElem? (i := 73) rfl))) Via.refl e0 (SA.ext O0.2) (hb hby own_d_jdk_52_method_5_code_0) rfl ?_
  intro T1 X1 e1
  refine own_ifT X1 hx (hb hby own_d_jdk_52_method_5_code_3) (by decide) rfl (by decide) ?_
  refine own_iloadN X1 hx (hb hby own_d_jdk_52_method_5_code_28) rfl rfl ?_
  refine own_iconst X1 hx (1 : Int32) (hb hby own_d_jdk_52_method_5_code_29) (by decide) rfl ?_
  refine own_ishl X1 hx (hb hby own_d_jdk_52_method_5_code_30) rfl ?_
  rw [show ((1 : Int32) <<< ((1 : Int32) &&& 31)) = (2 : Int32) from by decide]
  refine own_istoreN X1 hx #[.val (.ref b1), .val (.int (2 : Int32))] (hb hby own_d_jdk_52_method_5_code_31) rfl rfl ?_
  refine own_aloadN X1 hx (hb hby own_d_jdk_52_method_5_code_32) rfl rfl rfl ?_
  refine own_iloadN X1 hx (hb hby own_d_jdk_52_method_5_code_33) rfl rfl ?_
  refine own_iinc X1 hx #[.val (.ref b1), .val (.int (3 : Int32))] (hb hby own_d_jdk_52_method_5_code_34) rfl rfl rfl ?_
  refine own_baloadBytes X1 hx hZ e1 V0 ⟨by decide, by decide⟩ rfl (hb hby own_d_jdk_52_method_5_code_37) rfl ?_
  refine own_sipush X1 hx (255 : Int32) (hb hby own_d_jdk_52_method_5_code_38) (by decide) rfl ?_
  refine own_iand X1 hx (hb hby own_d_jdk_52_method_5_code_41) rfl ?_
  refine own_getS X1 hx hZ hown (host := "") (Or.inl (hw _ (List.mem_of_getElem? (i := 74) rfl))) Via.refl e1 (SH.ext O0.2) (hb hby own_d_jdk_52_method_5_code_42) rfl ?_
  intro T2 X2 e2
  refine own_ishl X2 hx (hb hby own_d_jdk_52_method_5_code_45) rfl ?_
  refine own_aloadN X2 hx (hb hby own_d_jdk_52_method_5_code_46) rfl rfl rfl ?_
  refine own_iloadN X2 hx (hb hby own_d_jdk_52_method_5_code_47) rfl rfl ?_
  refine own_baloadBytes X2 hx hZ e2 V0 ⟨by decide, by decide⟩ rfl (hb hby own_d_jdk_52_method_5_code_48) rfl ?_
  refine own_sipush X2 hx (255 : Int32) (hb hby own_d_jdk_52_method_5_code_49) (by decide) rfl ?_
  refine own_iand X2 hx (hb hby own_d_jdk_52_method_5_code_52) rfl ?_
  refine own_getS X2 hx hZ hown (host := "") (Or.inl (hw _ (List.mem_of_getElem? (i := 75) rfl))) Via.refl e2 (SL.ext O0.2) (hb hby own_d_jdk_52_method_5_code_53) rfl ?_
  intro T3 X3 e3
  refine own_ishl X3 hx (hb hby own_d_jdk_52_method_5_code_56) rfl ?_
  refine own_ior X3 hx (hb hby own_d_jdk_52_method_5_code_57) rfl ?_
  refine own_i2c X3 hx (hb hby own_d_jdk_52_method_5_code_58) rfl ?_
  rw [show (((((StrChars.lo8 x1) &&& (255 : Int32)) <<< ((0 : Int32) &&& 31)) ||| (((StrChars.hi8 x1) &&& (255 : Int32)) <<< ((8 : Int32) &&& 31))).toUInt32.toUInt16.toUInt32.toInt32) = x1 from StrChars.pair_says hx1.1 hx1.2]
  exact own_retN X3 hx hlocks hret (by simp) (hb hby own_d_jdk_52_method_5_code_59) (by decide) (by decide) (own_narC2 hx1) ⟨rfl, N0, e3⟩
set_option maxRecDepth 65536 in
set_option maxHeartbeats 40000000 in
theorem own_put3_2 (l : Launch) (Z : State) (a0 : Array Value) (hw : ∀ d ∈ tables_1, d.before a0 Z = true) (b1 : Addr) (kb : ClassId) (ch y0 y1 y2 y3 y4 y5 : Int32) (h0 : Heap) (n0 : Nat) (O0 : Old Z n0 h0) (SA : Sta Z Z.heap "java/lang/StringUTF16" "$assertionsDisabled" "Z" (.int (1 : Int32))) (SH : Sta Z Z.heap "java/lang/StringUTF16" "HI_BYTE_SHIFT" "I" (.int (0 : Int32))) (SL : Sta Z Z.heap "java/lang/StringUTF16" "LO_BYTE_SHIFT" "I" (.int (8 : Int32))) (g_b1 : n0 ≤ b1) (V0 : Arv Z h0 b1 kb .byte (6 : Int32) [.int y0, .int y1, .int y2, .int y3, .int y4, .int y5] (.int (0 : Int32))) :
    own_Met l (⟨"java/lang/StringUTF16", "putChar", "([BII)V"⟩ : MethodName) jdk_52_method_4_code 3 none ({ frames := 0, cells := 0, slots := 0, locals := 0 } : Room) Z #[(.ref b1), (.int (2 : Int32)), (.int ch)] h0 (fun v h L => v = none ∧ Fr n0 L ∧ Keep h0 h [b1] ∧ Arv Z h b1 kb .byte (6 : Int32) [.int y0, .int y1, .int y2, .int y3, .int (StrChars.lo8 ch), .int (StrChars.hi8 ch)] (.int (0 : Int32))) := by
  refine own_met (plainFor_of_name own_pn_java_lang_StringUTF16) ?_
  intro p e s m below meth c T0 hx hby hml hZ hown hnm hret hlocks X0 e0 hh0
  have ef : entryFrame m #[(.ref b1), (.int (2 : Int32)), (.int ch)] 3 = mkF m 0 #[.val (.ref b1), .val (.int (2 : Int32)), .val (.int ch)] [] := by first | (simp [entryFrame, mkF, argsToLocals, Value.category]; done) | rfl
  refine own_entry ef ?_
  have N0 := Fr.nil n0
  have K0 := Keep.refl h0 [b1]
  have Z0 : n0 ≤ h0.size := O0.1 ▸ O0.2.1
  refine own_getS X0 hx hZ hown (host := "") (Or.inl (hw _ (List.mem_of_getElem? (i := 73) rfl))) Via.refl e0 (SA.ext O0.2) (hb hby own_d_jdk_52_method_4_code_0) rfl ?_
  intro T1 X1 e1
  refine own_ifT X1 hx (hb hby own_d_jdk_52_method_4_code_3) (by decide) rfl (by decide) ?_
  refine own_iloadN X1 hx (hb hby own_d_jdk_52_method_4_code_28) rfl rfl ?_
  refine own_iconst X1 hx (1 : Int32) (hb hby own_d_jdk_52_method_4_code_29) (by decide) rfl ?_
  refine own_ishl X1 hx (hb hby own_d_jdk_52_method_4_code_30) rfl ?_
  rw [show ((2 : Int32) <<< ((1 : Int32) &&& 31)) = (4 : Int32) from by decide]
  refine own_istoreN X1 hx #[.val (.ref b1), .val (.int (4 : Int32)), .val (.int ch)] (hb hby own_d_jdk_52_method_4_code_31) rfl rfl ?_
  refine own_aloadN X1 hx (hb hby own_d_jdk_52_method_4_code_32) rfl rfl rfl ?_
  refine own_iloadN X1 hx (hb hby own_d_jdk_52_method_4_code_33) rfl rfl ?_
  refine own_iinc X1 hx #[.val (.ref b1), .val (.int (5 : Int32)), .val (.int ch)] (hb hby own_d_jdk_52_method_4_code_34) rfl rfl rfl ?_
  refine own_iloadN X1 hx (hb hby own_d_jdk_52_method_4_code_37) rfl rfl ?_
  refine own_getS X1 hx hZ hown (host := "") (Or.inl (hw _ (List.mem_of_getElem? (i := 74) rfl))) Via.refl e1 (SH.ext O0.2) (hb hby own_d_jdk_52_method_4_code_38) rfl ?_
  intro T2 X2 e2
  refine own_ishr X2 hx (hb hby own_d_jdk_52_method_4_code_41) rfl ?_
  refine own_i2b X2 hx (hb hby own_d_jdk_52_method_4_code_42) rfl ?_
  rw [show ((ch >>> ((0 : Int32) &&& 31)).toInt8.toInt32) = (StrChars.lo8 ch) from own_lo0 ch]
  refine own_stB X2 hx hZ e2 V0 ⟨by decide, by decide⟩ 4 rfl (Nat.le_of_ble_eq_true rfl) (own_lo8L ch) N0 g_b1 (hb hby own_d_jdk_52_method_4_code_43) rfl ?_
  intro T3 h3 X3 e3 W3 N3 V3
  have K4 := K0.wr W3 (Or.inl (List.mem_of_getElem? (i := 0) rfl))
  refine own_aloadN X3 hx (hb hby own_d_jdk_52_method_4_code_44) rfl rfl rfl ?_
  refine own_iloadN X3 hx (hb hby own_d_jdk_52_method_4_code_45) rfl rfl ?_
  refine own_iloadN X3 hx (hb hby own_d_jdk_52_method_4_code_46) rfl rfl ?_
  have f5 := (O0.wr W3 g_b1)
  refine own_getS X3 hx hZ hown (host := "") (Or.inl (hw _ (List.mem_of_getElem? (i := 75) rfl))) Via.refl e3 (SL.ext f5.2) (hb hby own_d_jdk_52_method_4_code_47) rfl ?_
  intro T6 X6 e6
  refine own_ishr X6 hx (hb hby own_d_jdk_52_method_4_code_50) rfl ?_
  refine own_i2b X6 hx (hb hby own_d_jdk_52_method_4_code_51) rfl ?_
  rw [show ((ch >>> ((8 : Int32) &&& 31)).toInt8.toInt32) = (StrChars.hi8 ch) from rfl]
  refine own_stB X6 hx hZ e6 V3 ⟨by decide, by decide⟩ 5 rfl (Nat.le_of_ble_eq_true rfl) (own_lo8H ch) N3 g_b1 (hb hby own_d_jdk_52_method_4_code_52) rfl ?_
  intro T7 h7 X7 e7 W7 N7 V7
  have K8 := K4.wr W7 (Or.inl (List.mem_of_getElem? (i := 0) rfl))
  exact own_ret X7 hx hlocks hret (hb hby own_d_jdk_52_method_4_code_53) (by decide) (by decide) ⟨rfl, N7, by rw [e7]; exact ⟨K8, V7⟩⟩
set_option maxRecDepth 65536 in
set_option maxHeartbeats 40000000 in
theorem own_get3_2 (l : Launch) (Z : State) (a0 : Array Value) (hw : ∀ d ∈ tables_1, d.before a0 Z = true) (b1 : Addr) (kb : ClassId) (x0 x1 x2 : Int32) (h0 : Heap) (n0 : Nat) (O0 : Old Z n0 h0) (SA : Sta Z Z.heap "java/lang/StringUTF16" "$assertionsDisabled" "Z" (.int (1 : Int32))) (SH : Sta Z Z.heap "java/lang/StringUTF16" "HI_BYTE_SHIFT" "I" (.int (0 : Int32))) (SL : Sta Z Z.heap "java/lang/StringUTF16" "LO_BYTE_SHIFT" "I" (.int (8 : Int32))) (hx0 : ¬ x0 < 0 ∧ ¬ (65535 : Int32) < x0) (hx1 : ¬ x1 < 0 ∧ ¬ (65535 : Int32) < x1) (hx2 : ¬ x2 < 0 ∧ ¬ (65535 : Int32) < x2) (V0 : Arv Z h0 b1 kb .byte (6 : Int32) [.int (StrChars.lo8 x0), .int (StrChars.hi8 x0), .int (StrChars.lo8 x1), .int (StrChars.hi8 x1), .int (StrChars.lo8 x2), .int (StrChars.hi8 x2)] (.int (0 : Int32))) :
    own_Met l (⟨"java/lang/StringUTF16", "getChar", "([BI)C"⟩ : MethodName) jdk_52_method_5_code 2 (some .char) ({ frames := 0, cells := 0, slots := 0, locals := 0 } : Room) Z #[(.ref b1), (.int (2 : Int32))] h0 (fun v h L => v = some (.int x2) ∧ Fr n0 L ∧ h = h0) := by
  refine own_met (plainFor_of_name own_pn_java_lang_StringUTF16) ?_
  intro p e s m below meth c T0 hx hby hml hZ hown hnm hret hlocks X0 e0 hh0
  have ef : entryFrame m #[(.ref b1), (.int (2 : Int32))] 2 = mkF m 0 #[.val (.ref b1), .val (.int (2 : Int32))] [] := by first | (simp [entryFrame, mkF, argsToLocals, Value.category]; done) | rfl
  refine own_entry ef ?_
  have N0 := Fr.nil n0
  have K0 := Keep.refl h0 []
  have Z0 : n0 ≤ h0.size := O0.1 ▸ O0.2.1
  refine own_getS X0 hx hZ hown (host := "") (Or.inl (hw _ (List.mem_of_getElem? (i := 73) rfl))) Via.refl e0 (SA.ext O0.2) (hb hby own_d_jdk_52_method_5_code_0) rfl ?_
  intro T1 X1 e1
  refine own_ifT X1 hx (hb hby own_d_jdk_52_method_5_code_3) (by decide) rfl (by decide) ?_
  refine own_iloadN X1 hx (hb hby own_d_jdk_52_method_5_code_28) rfl rfl ?_
  refine own_iconst X1 hx (1 : Int32) (hb hby own_d_jdk_52_method_5_code_29) (by decide) rfl ?_
  refine own_ishl X1 hx (hb hby own_d_jdk_52_method_5_code_30) rfl ?_
  rw [show ((2 : Int32) <<< ((1 : Int32) &&& 31)) = (4 : Int32) from by decide]
  refine own_istoreN X1 hx #[.val (.ref b1), .val (.int (4 : Int32))] (hb hby own_d_jdk_52_method_5_code_31) rfl rfl ?_
  refine own_aloadN X1 hx (hb hby own_d_jdk_52_method_5_code_32) rfl rfl rfl ?_
  refine own_iloadN X1 hx (hb hby own_d_jdk_52_method_5_code_33) rfl rfl ?_
  refine own_iinc X1 hx #[.val (.ref b1), .val (.int (5 : Int32))] (hb hby own_d_jdk_52_method_5_code_34) rfl rfl rfl ?_
  refine own_baloadBytes X1 hx hZ e1 V0 ⟨by decide, by decide⟩ rfl (hb hby own_d_jdk_52_method_5_code_37) rfl ?_
  refine own_sipush X1 hx (255 : Int32) (hb hby own_d_jdk_52_method_5_code_38) (by decide) rfl ?_
  refine own_iand X1 hx (hb hby own_d_jdk_52_method_5_code_41) rfl ?_
  refine own_getS X1 hx hZ hown (host := "") (Or.inl (hw _ (List.mem_of_getElem? (i := 74) rfl))) Via.refl e1 (SH.ext O0.2) (hb hby own_d_jdk_52_method_5_code_42) rfl ?_
  intro T2 X2 e2
  refine own_ishl X2 hx (hb hby own_d_jdk_52_method_5_code_45) rfl ?_
  refine own_aloadN X2 hx (hb hby own_d_jdk_52_method_5_code_46) rfl rfl rfl ?_
  refine own_iloadN X2 hx (hb hby own_d_jdk_52_method_5_code_47) rfl rfl ?_
  refine own_baloadBytes X2 hx hZ e2 V0 ⟨by decide, by decide⟩ rfl (hb hby own_d_jdk_52_method_5_code_48) rfl ?_
  refine own_sipush X2 hx (255 : Int32) (hb hby own_d_jdk_52_method_5_code_49) (by decide) rfl ?_
  refine own_iand X2 hx (hb hby own_d_jdk_52_method_5_code_52) rfl ?_
  refine own_getS X2 hx hZ hown (host := "") (Or.inl (hw _ (List.mem_of_getElem? (i := 75) rfl))) Via.refl e2 (SL.ext O0.2) (hb hby own_d_jdk_52_method_5_code_53) rfl ?_
  intro T3 X3 e3
  refine own_ishl X3 hx (hb hby own_d_jdk_52_method_5_code_56) rfl ?_
  refine own_ior X3 hx (hb hby own_d_jdk_52_method_5_code_57) rfl ?_
  refine own_i2c X3 hx (hb hby own_d_jdk_52_method_5_code_58) rfl ?_
  rw [show (((((StrChars.lo8 x2) &&& (255 : Int32)) <<< ((0 : Int32) &&& 31)) ||| (((StrChars.hi8 x2) &&& (255 : Int32)) <<< ((8 : Int32) &&& 31))).toUInt32.toUInt16.toUInt32.toInt32) = x2 from StrChars.pair_says hx2.1 hx2.2]
  exact own_retN X3 hx hlocks hret (by simp) (hb hby own_d_jdk_52_method_5_code_59) (by decide) (by decide) (own_narC2 hx2) ⟨rfl, N0, e3⟩
set_option maxRecDepth 65536 in
set_option maxHeartbeats 40000000 in
theorem own_tob3 (l : Launch) (Z : State) (a0 : Array Value) (hw : ∀ d ∈ tables_1, d.before a0 Z = true) (c1 : Addr) (kc : ClassId) (x0 x1 x2 : Int32) (h0 : Heap) (n0 : Nat) (O0 : Old Z n0 h0) (SA : Sta Z Z.heap "java/lang/StringUTF16" "$assertionsDisabled" "Z" (.int (1 : Int32))) (SH : Sta Z Z.heap "java/lang/StringUTF16" "HI_BYTE_SHIFT" "I" (.int (0 : Int32))) (SL : Sta Z Z.heap "java/lang/StringUTF16" "LO_BYTE_SHIFT" "I" (.int (8 : Int32))) (VC : Arv Z h0 c1 kc .char (3 : Int32) [.int x0, .int x1, .int x2] (.int (0 : Int32))) :
    own_Met l (⟨"java/lang/StringUTF16", "toBytes", "([CII)[B"⟩ : MethodName) jdk_52_method_14_code 5 (some (.array .byte)) ({ frames := 2, cells := 1, slots := 6, locals := 24 } : Room) Z #[(.ref c1), (.int (0 : Int32)), (.int (3 : Int32))] h0 (fun v h L => ∃ (b : Addr) (k : ClassId), v = some (.ref b) ∧ Fr n0 L ∧ Keep h0 h [] ∧ n0 ≤ b ∧ h0.size ≤ b ∧ Arv Z h b k .byte (6 : Int32) [.int (StrChars.lo8 x0), .int (StrChars.hi8 x0), .int (StrChars.lo8 x1), .int (StrChars.hi8 x1), .int (StrChars.lo8 x2), .int (StrChars.hi8 x2)] (.int (0 : Int32))) := by
  refine own_met (plainFor_of_name own_pn_java_lang_StringUTF16) ?_
  intro p e s m below meth c T0 hx hby hml hZ hown hnm hret hlocks X0 e0 hh0
  have ef : entryFrame m #[(.ref c1), (.int (0 : Int32)), (.int (3 : Int32))] 5 = mkF m 0 #[.val (.ref c1), .val (.int (0 : Int32)), .val (.int (3 : Int32)), .unset, .unset] [] := by first | (simp [entryFrame, mkF, argsToLocals, Value.category]; done) | rfl
  refine own_entry ef ?_
  have N0 := Fr.nil n0
  have K0 := Keep.refl h0 []
  have Z0 : n0 ≤ h0.size := O0.1 ▸ O0.2.1
  refine own_iloadN X0 hx (hb hby own_d_jdk_52_method_14_code_0) rfl rfl ?_
  refine own_static X0 hx hZ (y := (⟨"java/lang/StringUTF16", "newBytesFor", "(I)[B"⟩ : MethodName)) hown (hw _ (List.mem_of_getElem? (i := 63) rfl)) (hw _ (List.mem_of_getElem? (i := 64) rfl)) (hw _ (List.mem_of_getElem? (i := 52) rfl)) (hw _ (List.mem_of_getElem? (i := 65) rfl)) (by decide) e0 (by decide) (W := 0) (by decide) (by decide) (by decide) [(.int (3 : Int32))] [] (by rw [hml]; rfl) (own_nbf3 l Z a0 hw h0 n0 O0) own_pd1 rfl rfl rfl (hb hby own_d_jdk_52_method_14_code_1) rfl ?_
  intro v1 T1 L1 X1 hQ1
  obtain ⟨b1, k1, rfl, Nq1, Kq1, g_b1, sz_b1, V1⟩ := hQ1
  have sz_b1 := Nat.le_trans K0.1 sz_b1
  have N1 := Fr.app N0 Nq1
  have K2 := K0.trans Kq1 all0
  have f3 := (VC.keep Kq1 nin0)
  show own_Ends p e below _ (T1.setTop (mkF m 4 #[.val (.ref c1), .val (.int (0 : Int32)), .val (.int (3 : Int32)), .unset, .unset] [(.ref b1)]))
  refine own_astoreN X1 hx #[.val (.ref c1), .val (.int (0 : Int32)), .val (.int (3 : Int32)), .val (.ref b1), .unset] (hb hby own_d_jdk_52_method_14_code_4) rfl rfl rfl ?_
  refine own_iconst X1 hx (0 : Int32) (hb hby own_d_jdk_52_method_14_code_5) (by decide) rfl ?_
  refine own_istore X1 hx #[.val (.ref c1), .val (.int (0 : Int32)), .val (.int (3 : Int32)), .val (.ref b1), .val (.int (0 : Int32))] (hb hby own_d_jdk_52_method_14_code_6) rfl rfl ?_
  refine own_iload X1 hx (hb hby own_d_jdk_52_method_14_code_8) rfl rfl ?_
  refine own_iloadN X1 hx (hb hby own_d_jdk_52_method_14_code_10) rfl rfl ?_
  refine own_icmpF X1 hx (hb hby own_d_jdk_52_method_14_code_11) rfl (by decide) ?_
  refine own_aloadN X1 hx (hb hby own_d_jdk_52_method_14_code_14) rfl rfl rfl ?_
  refine own_iload X1 hx (hb hby own_d_jdk_52_method_14_code_15) rfl rfl ?_
  refine own_aloadN X1 hx (hb hby own_d_jdk_52_method_14_code_17) rfl rfl rfl ?_
  refine own_iloadN X1 hx (hb hby own_d_jdk_52_method_14_code_18) rfl rfl ?_
  refine own_caload X1 hx hZ rfl f3 ⟨by decide, by decide⟩ rfl (hb hby own_d_jdk_52_method_14_code_19) rfl ?_
  have f4 := (O0.keep Kq1 all0)
  refine own_static X1 hx hZ (y := (⟨"java/lang/StringUTF16", "putChar", "([BII)V"⟩ : MethodName)) hown (hw _ (List.mem_of_getElem? (i := 70) rfl)) (hw _ (List.mem_of_getElem? (i := 71) rfl)) (hw _ (List.mem_of_getElem? (i := 52) rfl)) (hw _ (List.mem_of_getElem? (i := 72) rfl)) (by decide) rfl (by decide) (W := 0) (by decide) (by decide) (by decide) [(.ref b1), (.int (0 : Int32)), (.int x0)] [] (by rw [hml]; rfl) (own_put3_0 l Z a0 hw b1 _ x0 (0 : Int32) (0 : Int32) (0 : Int32) (0 : Int32) (0 : Int32) (0 : Int32) T1.heap n0 f4 SA SH SL g_b1 V1) own_pd2 rfl rfl rfl (hb hby own_d_jdk_52_method_14_code_20) rfl ?_
  intro v5 T5 L5 X5 hQ5
  obtain ⟨rfl, Nq5, Kq5, V5⟩ := hQ5
  have N5 := Fr.app N1 Nq5
  have K6 := K2.trans Kq5 (allS (Or.inr sz_b1) all0)
  show own_Ends p e below _ (T5.setTop (mkF m 23 #[.val (.ref c1), .val (.int (0 : Int32)), .val (.int (3 : Int32)), .val (.ref b1), .val (.int (0 : Int32))] []))
  refine own_iinc X5 hx #[.val (.ref c1), .val (.int (1 : Int32)), .val (.int (3 : Int32)), .val (.ref b1), .val (.int (0 : Int32))] (hb hby own_d_jdk_52_method_14_code_23) rfl rfl rfl ?_
  refine own_iinc X5 hx #[.val (.ref c1), .val (.int (1 : Int32)), .val (.int (3 : Int32)), .val (.ref b1), .val (.int (1 : Int32))] (hb hby own_d_jdk_52_method_14_code_26) rfl rfl rfl ?_
  refine own_goto X5 hx (hb hby own_d_jdk_52_method_14_code_29) (by decide) rfl ?_
  refine own_iload X5 hx (hb hby own_d_jdk_52_method_14_code_8) rfl rfl ?_
  refine own_iloadN X5 hx (hb hby own_d_jdk_52_method_14_code_10) rfl rfl ?_
  refine own_icmpF X5 hx (hb hby own_d_jdk_52_method_14_code_11) rfl (by decide) ?_
  refine own_aloadN X5 hx (hb hby own_d_jdk_52_method_14_code_14) rfl rfl rfl ?_
  refine own_iload X5 hx (hb hby own_d_jdk_52_method_14_code_15) rfl rfl ?_
  refine own_aloadN X5 hx (hb hby own_d_jdk_52_method_14_code_17) rfl rfl rfl ?_
  refine own_iloadN X5 hx (hb hby own_d_jdk_52_method_14_code_18) rfl rfl ?_
  have f7 := (f3.keep Kq5 (ninS (own_neV f3 V1 (by decide)) nin0))
  refine own_caload X5 hx hZ rfl f7 ⟨by decide, by decide⟩ rfl (hb hby own_d_jdk_52_method_14_code_19) rfl ?_
  have f8 := (f4.keep Kq5 (allS g_b1 all0))
  refine own_static X5 hx hZ (y := (⟨"java/lang/StringUTF16", "putChar", "([BII)V"⟩ : MethodName)) hown (hw _ (List.mem_of_getElem? (i := 70) rfl)) (hw _ (List.mem_of_getElem? (i := 71) rfl)) (hw _ (List.mem_of_getElem? (i := 52) rfl)) (hw _ (List.mem_of_getElem? (i := 72) rfl)) (by decide) rfl (by decide) (W := 0) (by decide) (by decide) (by decide) [(.ref b1), (.int (1 : Int32)), (.int x1)] [] (by rw [hml]; rfl) (own_put3_1 l Z a0 hw b1 _ x1 (StrChars.lo8 x0) (StrChars.hi8 x0) (0 : Int32) (0 : Int32) (0 : Int32) (0 : Int32) T5.heap n0 f8 SA SH SL g_b1 V5) own_pd2 rfl rfl rfl (hb hby own_d_jdk_52_method_14_code_20) rfl ?_
  intro v9 T9 L9 X9 hQ9
  obtain ⟨rfl, Nq9, Kq9, V9⟩ := hQ9
  have N9 := Fr.app N5 Nq9
  have K10 := K6.trans Kq9 (allS (Or.inr sz_b1) all0)
  show own_Ends p e below _ (T9.setTop (mkF m 23 #[.val (.ref c1), .val (.int (1 : Int32)), .val (.int (3 : Int32)), .val (.ref b1), .val (.int (1 : Int32))] []))
  refine own_iinc X9 hx #[.val (.ref c1), .val (.int (2 : Int32)), .val (.int (3 : Int32)), .val (.ref b1), .val (.int (1 : Int32))] (hb hby own_d_jdk_52_method_14_code_23) rfl rfl rfl ?_
  refine own_iinc X9 hx #[.val (.ref c1), .val (.int (2 : Int32)), .val (.int (3 : Int32)), .val (.ref b1), .val (.int (2 : Int32))] (hb hby own_d_jdk_52_method_14_code_26) rfl rfl rfl ?_
  refine own_goto X9 hx (hb hby own_d_jdk_52_method_14_code_29) (by decide) rfl ?_
  refine own_iload X9 hx (hb hby own_d_jdk_52_method_14_code_8) rfl rfl ?_
  refine own_iloadN X9 hx (hb hby own_d_jdk_52_method_14_code_10) rfl rfl ?_
  refine own_icmpF X9 hx (hb hby own_d_jdk_52_method_14_code_11) rfl (by decide) ?_
  refine own_aloadN X9 hx (hb hby own_d_jdk_52_method_14_code_14) rfl rfl rfl ?_
  refine own_iload X9 hx (hb hby own_d_jdk_52_method_14_code_15) rfl rfl ?_
  refine own_aloadN X9 hx (hb hby own_d_jdk_52_method_14_code_17) rfl rfl rfl ?_
  refine own_iloadN X9 hx (hb hby own_d_jdk_52_method_14_code_18) rfl rfl ?_
  have f11 := (f7.keep Kq9 (ninS (own_neV f3 V1 (by decide)) nin0))
  refine own_caload X9 hx hZ rfl f11 ⟨by decide, by decide⟩ rfl (hb hby own_d_jdk_52_method_14_code_19) rfl ?_
  have f12 := (f8.keep Kq9 (allS g_b1 all0))
  refine own_static X9 hx hZ (y := (⟨"java/lang/StringUTF16", "putChar", "([BII)V"⟩ : MethodName)) hown (hw _ (List.mem_of_getElem? (i := 70) rfl)) (hw _ (List.mem_of_getElem? (i := 71) rfl)) (hw _ (List.mem_of_getElem? (i := 52) rfl)) (hw _ (List.mem_of_getElem? (i := 72) rfl)) (by decide) rfl (by decide) (W := 0) (by decide) (by decide) (by decide) [(.ref b1), (.int (2 : Int32)), (.int x2)] [] (by rw [hml]; rfl) (own_put3_2 l Z a0 hw b1 _ x2 (StrChars.lo8 x0) (StrChars.hi8 x0) (StrChars.lo8 x1) (StrChars.hi8 x1) (0 : Int32) (0 : Int32) T9.heap n0 f12 SA SH SL g_b1 V9) own_pd2 rfl rfl rfl (hb hby own_d_jdk_52_method_14_code_20) rfl ?_
  intro v13 T13 L13 X13 hQ13
  obtain ⟨rfl, Nq13, Kq13, V13⟩ := hQ13
  have N13 := Fr.app N9 Nq13
  have K14 := K10.trans Kq13 (allS (Or.inr sz_b1) all0)
  show own_Ends p e below _ (T13.setTop (mkF m 23 #[.val (.ref c1), .val (.int (2 : Int32)), .val (.int (3 : Int32)), .val (.ref b1), .val (.int (2 : Int32))] []))
  refine own_iinc X13 hx #[.val (.ref c1), .val (.int (3 : Int32)), .val (.int (3 : Int32)), .val (.ref b1), .val (.int (2 : Int32))] (hb hby own_d_jdk_52_method_14_code_23) rfl rfl rfl ?_
  refine own_iinc X13 hx #[.val (.ref c1), .val (.int (3 : Int32)), .val (.int (3 : Int32)), .val (.ref b1), .val (.int (3 : Int32))] (hb hby own_d_jdk_52_method_14_code_26) rfl rfl rfl ?_
  refine own_goto X13 hx (hb hby own_d_jdk_52_method_14_code_29) (by decide) rfl ?_
  refine own_iload X13 hx (hb hby own_d_jdk_52_method_14_code_8) rfl rfl ?_
  refine own_iloadN X13 hx (hb hby own_d_jdk_52_method_14_code_10) rfl rfl ?_
  refine own_icmpT X13 hx (hb hby own_d_jdk_52_method_14_code_11) (by decide) rfl (by decide) ?_
  refine own_aloadN X13 hx (hb hby own_d_jdk_52_method_14_code_32) rfl rfl rfl ?_
  exact own_retA X13 hx hlocks hret rfl rfl (hb hby own_d_jdk_52_method_14_code_33) (by decide) (by decide) ⟨b1, _, rfl, N13, by exact ⟨K14, g_b1, sz_b1, V13⟩⟩
set_option maxRecDepth 65536 in
set_option maxHeartbeats 40000000 in
theorem own_cmpi3 (l : Launch) (Z : State) (a0 : Array Value) (hw : ∀ d ∈ tables_1, d.before a0 Z = true) (c1 : Addr) (kc : ClassId) (x0 x1 x2 : Int32) (b1 : Addr) (kb : ClassId) (h0 : Heap) (n0 : Nat) (O0 : Old Z n0 h0) (VC : Arv Z h0 c1 kc .char (3 : Int32) [.int x0, .int x1, .int x2] (.int (0 : Int32))) (g_b1 : n0 ≤ b1) (VB : Arv Z h0 b1 kb .byte (3 : Int32) [.int (0 : Int32), .int (0 : Int32), .int (0 : Int32)] (.int (0 : Int32))) (HB : (255 : Int32) < x0 ∨ (255 : Int32) < x1 ∨ (255 : Int32) < x2) :
    own_Met l (⟨"java/lang/StringUTF16", "compress", "([CI[BII)I"⟩ : MethodName) jdk_52_method_21_code 7 (some .int) ({ frames := 0, cells := 0, slots := 0, locals := 0 } : Room) Z #[(.ref c1), (.int (0 : Int32)), (.ref b1), (.int (0 : Int32)), (.int (3 : Int32))] h0 (fun v h L => ∃ i : Int32, v = some (.int i) ∧ ((i = (0 : Int32) ∧ (255 : Int32) < x0) ∨ (i = (1 : Int32) ∧ (255 : Int32) < x1) ∨ (i = (2 : Int32) ∧ (255 : Int32) < x2)) ∧ Fr n0 L ∧ Keep h0 h [b1]) := by
  refine own_met (plainFor_of_name own_pn_java_lang_StringUTF16) ?_
  intro p e s m below meth c T0 hx hby hml hZ hown hnm hret hlocks X0 e0 hh0
  have ef : entryFrame m #[(.ref c1), (.int (0 : Int32)), (.ref b1), (.int (0 : Int32)), (.int (3 : Int32))] 7 = mkF m 0 #[.val (.ref c1), .val (.int (0 : Int32)), .val (.ref b1), .val (.int (0 : Int32)), .val (.int (3 : Int32)), .unset, .unset] [] := by first | (simp [entryFrame, mkF, argsToLocals, Value.category]; done) | rfl
  refine own_entry ef ?_
  have N0 := Fr.nil n0
  have K0 := Keep.refl h0 [b1]
  have Z0 : n0 ≤ h0.size := O0.1 ▸ O0.2.1
  refine own_iconst X0 hx (0 : Int32) (hb hby own_d_jdk_52_method_21_code_0) (by decide) rfl ?_
  refine own_istore X0 hx #[.val (.ref c1), .val (.int (0 : Int32)), .val (.ref b1), .val (.int (0 : Int32)), .val (.int (3 : Int32)), .val (.int (0 : Int32)), .unset] (hb hby own_d_jdk_52_method_21_code_1) rfl rfl ?_
  refine own_iload X0 hx (hb hby own_d_jdk_52_method_21_code_3) rfl rfl ?_
  refine own_iload X0 hx (hb hby own_d_jdk_52_method_21_code_5) rfl rfl ?_
  refine own_icmpF X0 hx (hb hby own_d_jdk_52_method_21_code_7) rfl (by decide) ?_
  refine own_aloadN X0 hx (hb hby own_d_jdk_52_method_21_code_10) rfl rfl rfl ?_
  refine own_iloadN X0 hx (hb hby own_d_jdk_52_method_21_code_11) rfl rfl ?_
  refine own_caload X0 hx hZ e0 VC ⟨by decide, by decide⟩ rfl (hb hby own_d_jdk_52_method_21_code_12) rfl ?_
  refine own_istore X0 hx #[.val (.ref c1), .val (.int (0 : Int32)), .val (.ref b1), .val (.int (0 : Int32)), .val (.int (3 : Int32)), .val (.int (0 : Int32)), .val (.int x0)] (hb hby own_d_jdk_52_method_21_code_13) rfl rfl ?_
  refine own_iload X0 hx (hb hby own_d_jdk_52_method_21_code_15) rfl rfl ?_
  refine own_sipush X0 hx (255 : Int32) (hb hby own_d_jdk_52_method_21_code_17) (by decide) rfl ?_
  refine own_icmp_le X0 hx (hb hby own_d_jdk_52_method_21_code_20) (by decide) rfl rfl (fun hc20_1 => ?_) (fun hc20_1 => ?_)
  · refine own_aloadN X0 hx (hb hby own_d_jdk_52_method_21_code_26) rfl rfl rfl ?_
    refine own_iloadN X0 hx (hb hby own_d_jdk_52_method_21_code_27) rfl rfl ?_
    refine own_iload X0 hx (hb hby own_d_jdk_52_method_21_code_28) rfl rfl ?_
    refine own_i2b X0 hx (hb hby own_d_jdk_52_method_21_code_30) rfl ?_
    refine own_stB X0 hx hZ e0 VB ⟨by decide, by decide⟩ 0 rfl (Nat.le_of_ble_eq_true rfl) (own_lo8 x0) N0 g_b1 (hb hby own_d_jdk_52_method_21_code_31) rfl ?_
    intro T2 h2 X2 e2 W2 N2 V2
    have K3 := K0.wr W2 (Or.inl (List.mem_of_getElem? (i := 0) rfl))
    refine own_iinc X2 hx #[.val (.ref c1), .val (.int (1 : Int32)), .val (.ref b1), .val (.int (0 : Int32)), .val (.int (3 : Int32)), .val (.int (0 : Int32)), .val (.int x0)] (hb hby own_d_jdk_52_method_21_code_32) rfl rfl rfl ?_
    refine own_iinc X2 hx #[.val (.ref c1), .val (.int (1 : Int32)), .val (.ref b1), .val (.int (1 : Int32)), .val (.int (3 : Int32)), .val (.int (0 : Int32)), .val (.int x0)] (hb hby own_d_jdk_52_method_21_code_35) rfl rfl rfl ?_
    refine own_iinc X2 hx #[.val (.ref c1), .val (.int (1 : Int32)), .val (.ref b1), .val (.int (1 : Int32)), .val (.int (3 : Int32)), .val (.int (1 : Int32)), .val (.int x0)] (hb hby own_d_jdk_52_method_21_code_38) rfl rfl rfl ?_
    refine own_goto X2 hx (hb hby own_d_jdk_52_method_21_code_41) (by decide) rfl ?_
    refine own_iload X2 hx (hb hby own_d_jdk_52_method_21_code_3) rfl rfl ?_
    refine own_iload X2 hx (hb hby own_d_jdk_52_method_21_code_5) rfl rfl ?_
    refine own_icmpF X2 hx (hb hby own_d_jdk_52_method_21_code_7) rfl (by decide) ?_
    refine own_aloadN X2 hx (hb hby own_d_jdk_52_method_21_code_10) rfl rfl rfl ?_
    refine own_iloadN X2 hx (hb hby own_d_jdk_52_method_21_code_11) rfl rfl ?_
    have f4 := (VC.other W2 (own_neV VC VB (by decide)))
    refine own_caload X2 hx hZ e2 f4 ⟨by decide, by decide⟩ rfl (hb hby own_d_jdk_52_method_21_code_12) rfl ?_
    refine own_istore X2 hx #[.val (.ref c1), .val (.int (1 : Int32)), .val (.ref b1), .val (.int (1 : Int32)), .val (.int (3 : Int32)), .val (.int (1 : Int32)), .val (.int x1)] (hb hby own_d_jdk_52_method_21_code_13) rfl rfl ?_
    refine own_iload X2 hx (hb hby own_d_jdk_52_method_21_code_15) rfl rfl ?_
    refine own_sipush X2 hx (255 : Int32) (hb hby own_d_jdk_52_method_21_code_17) (by decide) rfl ?_
    refine own_icmp_le X2 hx (hb hby own_d_jdk_52_method_21_code_20) (by decide) rfl rfl (fun hc20_5 => ?_) (fun hc20_5 => ?_)
    · refine own_aloadN X2 hx (hb hby own_d_jdk_52_method_21_code_26) rfl rfl rfl ?_
      refine own_iloadN X2 hx (hb hby own_d_jdk_52_method_21_code_27) rfl rfl ?_
      refine own_iload X2 hx (hb hby own_d_jdk_52_method_21_code_28) rfl rfl ?_
      refine own_i2b X2 hx (hb hby own_d_jdk_52_method_21_code_30) rfl ?_
      refine own_stB X2 hx hZ e2 V2 ⟨by decide, by decide⟩ 1 rfl (Nat.le_of_ble_eq_true rfl) (own_lo8 x1) N2 g_b1 (hb hby own_d_jdk_52_method_21_code_31) rfl ?_
      intro T6 h6 X6 e6 W6 N6 V6
      have K7 := K3.wr W6 (Or.inl (List.mem_of_getElem? (i := 0) rfl))
      refine own_iinc X6 hx #[.val (.ref c1), .val (.int (2 : Int32)), .val (.ref b1), .val (.int (1 : Int32)), .val (.int (3 : Int32)), .val (.int (1 : Int32)), .val (.int x1)] (hb hby own_d_jdk_52_method_21_code_32) rfl rfl rfl ?_
      refine own_iinc X6 hx #[.val (.ref c1), .val (.int (2 : Int32)), .val (.ref b1), .val (.int (2 : Int32)), .val (.int (3 : Int32)), .val (.int (1 : Int32)), .val (.int x1)] (hb hby own_d_jdk_52_method_21_code_35) rfl rfl rfl ?_
      refine own_iinc X6 hx #[.val (.ref c1), .val (.int (2 : Int32)), .val (.ref b1), .val (.int (2 : Int32)), .val (.int (3 : Int32)), .val (.int (2 : Int32)), .val (.int x1)] (hb hby own_d_jdk_52_method_21_code_38) rfl rfl rfl ?_
      refine own_goto X6 hx (hb hby own_d_jdk_52_method_21_code_41) (by decide) rfl ?_
      refine own_iload X6 hx (hb hby own_d_jdk_52_method_21_code_3) rfl rfl ?_
      refine own_iload X6 hx (hb hby own_d_jdk_52_method_21_code_5) rfl rfl ?_
      refine own_icmpF X6 hx (hb hby own_d_jdk_52_method_21_code_7) rfl (by decide) ?_
      refine own_aloadN X6 hx (hb hby own_d_jdk_52_method_21_code_10) rfl rfl rfl ?_
      refine own_iloadN X6 hx (hb hby own_d_jdk_52_method_21_code_11) rfl rfl ?_
      have f8 := (f4.other W6 (own_neV VC VB (by decide)))
      refine own_caload X6 hx hZ e6 f8 ⟨by decide, by decide⟩ rfl (hb hby own_d_jdk_52_method_21_code_12) rfl ?_
      refine own_istore X6 hx #[.val (.ref c1), .val (.int (2 : Int32)), .val (.ref b1), .val (.int (2 : Int32)), .val (.int (3 : Int32)), .val (.int (2 : Int32)), .val (.int x2)] (hb hby own_d_jdk_52_method_21_code_13) rfl rfl ?_
      refine own_iload X6 hx (hb hby own_d_jdk_52_method_21_code_15) rfl rfl ?_
      refine own_sipush X6 hx (255 : Int32) (hb hby own_d_jdk_52_method_21_code_17) (by decide) rfl ?_
      refine own_icmp_le X6 hx (hb hby own_d_jdk_52_method_21_code_20) (by decide) rfl rfl (fun hc20_9 => ?_) (fun hc20_9 => ?_)
      · refine own_aloadN X6 hx (hb hby own_d_jdk_52_method_21_code_26) rfl rfl rfl ?_
        refine own_iloadN X6 hx (hb hby own_d_jdk_52_method_21_code_27) rfl rfl ?_
        refine own_iload X6 hx (hb hby own_d_jdk_52_method_21_code_28) rfl rfl ?_
        refine own_i2b X6 hx (hb hby own_d_jdk_52_method_21_code_30) rfl ?_
        refine own_stB X6 hx hZ e6 V6 ⟨by decide, by decide⟩ 2 rfl (Nat.le_of_ble_eq_true rfl) (own_lo8 x2) N6 g_b1 (hb hby own_d_jdk_52_method_21_code_31) rfl ?_
        intro T10 h10 X10 e10 W10 N10 V10
        have K11 := K7.wr W10 (Or.inl (List.mem_of_getElem? (i := 0) rfl))
        refine own_iinc X10 hx #[.val (.ref c1), .val (.int (3 : Int32)), .val (.ref b1), .val (.int (2 : Int32)), .val (.int (3 : Int32)), .val (.int (2 : Int32)), .val (.int x2)] (hb hby own_d_jdk_52_method_21_code_32) rfl rfl rfl ?_
        refine own_iinc X10 hx #[.val (.ref c1), .val (.int (3 : Int32)), .val (.ref b1), .val (.int (3 : Int32)), .val (.int (3 : Int32)), .val (.int (2 : Int32)), .val (.int x2)] (hb hby own_d_jdk_52_method_21_code_35) rfl rfl rfl ?_
        refine own_iinc X10 hx #[.val (.ref c1), .val (.int (3 : Int32)), .val (.ref b1), .val (.int (3 : Int32)), .val (.int (3 : Int32)), .val (.int (3 : Int32)), .val (.int x2)] (hb hby own_d_jdk_52_method_21_code_38) rfl rfl rfl ?_
        refine own_goto X10 hx (hb hby own_d_jdk_52_method_21_code_41) (by decide) rfl ?_
        refine own_iload X10 hx (hb hby own_d_jdk_52_method_21_code_3) rfl rfl ?_
        refine own_iload X10 hx (hb hby own_d_jdk_52_method_21_code_5) rfl rfl ?_
        refine own_icmpT X10 hx (hb hby own_d_jdk_52_method_21_code_7) (by decide) rfl (by decide) ?_
        refine own_iload X10 hx (hb hby own_d_jdk_52_method_21_code_44) rfl rfl ?_
        exact own_retI X10 hx hlocks hret (hb hby own_d_jdk_52_method_21_code_46) (by decide) (by decide) (by exfalso; rcases HB with hb | hb | hb <;> contradiction)
      · refine own_iload X6 hx (hb hby own_d_jdk_52_method_21_code_23) rfl rfl ?_
        exact own_retI X6 hx hlocks hret (hb hby own_d_jdk_52_method_21_code_25) (by decide) (by decide) ⟨_, rfl, Or.inr (Or.inr (⟨rfl, hc20_9⟩)), N6, by rw [e6]; exact K7⟩
    · refine own_iload X2 hx (hb hby own_d_jdk_52_method_21_code_23) rfl rfl ?_
      exact own_retI X2 hx hlocks hret (hb hby own_d_jdk_52_method_21_code_25) (by decide) (by decide) ⟨_, rfl, Or.inr (Or.inl ⟨rfl, hc20_5⟩), N2, by rw [e2]; exact K3⟩
  · refine own_iload X0 hx (hb hby own_d_jdk_52_method_21_code_23) rfl rfl ?_
    exact own_retI X0 hx hlocks hret (hb hby own_d_jdk_52_method_21_code_25) (by decide) (by decide) ⟨_, rfl, Or.inl ⟨rfl, hc20_1⟩, N0, by rw [e0]; exact K0⟩
set_option maxRecDepth 65536 in
set_option maxHeartbeats 40000000 in
theorem own_cmpo3 (l : Launch) (Z : State) (a0 : Array Value) (hw : ∀ d ∈ tables_1, d.before a0 Z = true) (c1 : Addr) (kc : ClassId) (x0 x1 x2 : Int32) (h0 : Heap) (n0 : Nat) (O0 : Old Z n0 h0) (SA : Sta Z Z.heap "java/lang/StringUTF16" "$assertionsDisabled" "Z" (.int (1 : Int32))) (SH : Sta Z Z.heap "java/lang/StringUTF16" "HI_BYTE_SHIFT" "I" (.int (0 : Int32))) (SL : Sta Z Z.heap "java/lang/StringUTF16" "LO_BYTE_SHIFT" "I" (.int (8 : Int32))) (hx0 : ¬ x0 < 0 ∧ ¬ (65535 : Int32) < x0) (hx1 : ¬ x1 < 0 ∧ ¬ (65535 : Int32) < x1) (hx2 : ¬ x2 < 0 ∧ ¬ (65535 : Int32) < x2) (VC : Arv Z h0 c1 kc .char (3 : Int32) [.int x0, .int x1, .int x2] (.int (0 : Int32))) (HB : (255 : Int32) < x0 ∨ (255 : Int32) < x1 ∨ (255 : Int32) < x2) :
    own_Met l (⟨"java/lang/StringUTF16", "compress", "([CII)[B"⟩ : MethodName) jdk_52_method_16_code 6 (some (.array .byte)) ({ frames := 3, cells := 2, slots := 9, locals := 40 } : Room) Z #[(.ref c1), (.int (0 : Int32)), (.int (3 : Int32))] h0 (fun v h L => ∃ (b : Addr) (k : ClassId), v = some (.ref b) ∧ Fr n0 L ∧ Keep h0 h [] ∧ n0 ≤ b ∧ h0.size ≤ b ∧ Arv Z h b k .byte (6 : Int32) [.int (StrChars.lo8 x0), .int (StrChars.hi8 x0), .int (StrChars.lo8 x1), .int (StrChars.hi8 x1), .int (StrChars.lo8 x2), .int (StrChars.hi8 x2)] (.int (0 : Int32))) := by
  refine own_met (plainFor_of_name own_pn_java_lang_StringUTF16) ?_
  intro p e s m below meth c T0 hx hby hml hZ hown hnm hret hlocks X0 e0 hh0
  have ef : entryFrame m #[(.ref c1), (.int (0 : Int32)), (.int (3 : Int32))] 6 = mkF m 0 #[.val (.ref c1), .val (.int (0 : Int32)), .val (.int (3 : Int32)), .unset, .unset, .unset] [] := by first | (simp [entryFrame, mkF, argsToLocals, Value.category]; done) | rfl
  refine own_entry ef ?_
  have N0 := Fr.nil n0
  have K0 := Keep.refl h0 []
  have Z0 : n0 ≤ h0.size := O0.1 ▸ O0.2.1
  refine own_iloadN X0 hx (hb hby own_d_jdk_52_method_16_code_0) rfl rfl ?_
  refine own_newP X0 hx hZ (aty := .byte) (hw _ (List.mem_of_getElem? (i := 25) rfl)) e0 (hb hby own_d_jdk_52_method_16_code_1) (by decide) 3 (by decide) (by decide) (by decide) (by decide) rfl ?_
  intro T1 h1 b1 k1 X1 e1 g1 E1 V1q
  have g_b1 : n0 ≤ b1 := Nat.le_trans (own_oz O0) (Nat.le_of_eq g1.symm)
  have sz_b1 : h0.size ≤ b1 := Nat.le_trans K0.1 (Nat.le_of_eq g1.symm)
  have K2 := K0.ext E1
  have V1 : Arv Z h1 b1 k1 .byte (3 : Int32) [(.int (0 : Int32)), (.int (0 : Int32)), (.int (0 : Int32))] (.int (0 : Int32)) := Arv.pad V1q (pad_rep [] (.int (0 : Int32)) 3)
  refine own_astoreN X1 hx #[.val (.ref c1), .val (.int (0 : Int32)), .val (.int (3 : Int32)), .val (.ref b1), .unset, .unset] (hb hby own_d_jdk_52_method_16_code_3) rfl rfl rfl ?_
  refine own_aloadN X1 hx (hb hby own_d_jdk_52_method_16_code_4) rfl rfl rfl ?_
  refine own_iloadN X1 hx (hb hby own_d_jdk_52_method_16_code_5) rfl rfl ?_
  refine own_aloadN X1 hx (hb hby own_d_jdk_52_method_16_code_6) rfl rfl rfl ?_
  refine own_iconst X1 hx (0 : Int32) (hb hby own_d_jdk_52_method_16_code_7) (by decide) rfl ?_
  refine own_iloadN X1 hx (hb hby own_d_jdk_52_method_16_code_8) rfl rfl ?_
  have f3 := (O0.ext E1)
  have f4 := (VC.ext E1)
  refine own_static X1 hx hZ (y := (⟨"java/lang/StringUTF16", "compress", "([CI[BII)I"⟩ : MethodName)) hown (hw _ (List.mem_of_getElem? (i := 54) rfl)) (hw _ (List.mem_of_getElem? (i := 55) rfl)) (hw _ (List.mem_of_getElem? (i := 52) rfl)) (hw _ (List.mem_of_getElem? (i := 56) rfl)) (by decide) e1 (by decide) (W := 0) (by decide) (by decide) (by decide) [(.ref c1), (.int (0 : Int32)), (.ref b1), (.int (0 : Int32)), (.int (3 : Int32))] [] (by rw [hml]; rfl) (own_cmpi3 l Z a0 hw c1 _ x0 x1 x2 b1 _ h1 n0 f3 f4 g_b1 V1 HB) own_pd3 rfl rfl rfl (hb hby own_d_jdk_52_method_16_code_9) rfl ?_
  intro v5 T5 L5 X5 hQ5
  obtain ⟨i5, rfl, hi5, Nq5, Kq5⟩ := hQ5
  have N5 := Fr.app N0 Nq5
  have K6 := K2.trans Kq5 (allS (Or.inr sz_b1) all0)
  show own_Ends p e below _ (T5.setTop (mkF m 12 #[.val (.ref c1), .val (.int (0 : Int32)), .val (.int (3 : Int32)), .val (.ref b1), .unset, .unset] [(.int i5)]))
  rcases hi5 with ⟨rfl, hb0⟩ | ⟨rfl, hb1⟩ | ⟨rfl, hb2⟩
  · refine own_istore X5 hx #[.val (.ref c1), .val (.int (0 : Int32)), .val (.int (3 : Int32)), .val (.ref b1), .val (.int (0 : Int32)), .unset] (hb hby own_d_jdk_52_method_16_code_12) rfl rfl ?_
    refine own_iload X5 hx (hb hby own_d_jdk_52_method_16_code_14) rfl rfl ?_
    refine own_iloadN X5 hx (hb hby own_d_jdk_52_method_16_code_16) rfl rfl ?_
    refine own_icmpF X5 hx (hb hby own_d_jdk_52_method_16_code_17) rfl (by decide) ?_
    refine own_aloadN X5 hx (hb hby own_d_jdk_52_method_16_code_20) rfl rfl rfl ?_
    refine own_iloadN X5 hx (hb hby own_d_jdk_52_method_16_code_21) rfl rfl ?_
    refine own_iloadN X5 hx (hb hby own_d_jdk_52_method_16_code_22) rfl rfl ?_
    have f7 := (f3.keep Kq5 (allS g_b1 all0))
    have f8 := (f4.keep Kq5 (ninS (Nat.ne_of_lt (Nat.lt_of_lt_of_le VC.lt (Nat.le_of_eq g1.symm))) nin0))
    refine own_static X5 hx hZ (y := (⟨"java/lang/StringUTF16", "toBytes", "([CII)[B"⟩ : MethodName)) hown (hw _ (List.mem_of_getElem? (i := 60) rfl)) (hw _ (List.mem_of_getElem? (i := 61) rfl)) (hw _ (List.mem_of_getElem? (i := 52) rfl)) (hw _ (List.mem_of_getElem? (i := 62) rfl)) (by decide) rfl (by decide) (W := 0) (by decide) (by decide) (by decide) [(.ref c1), (.int (0 : Int32)), (.int (3 : Int32))] [] (by rw [hml]; rfl) (own_tob3 l Z a0 hw c1 _ x0 x1 x2 T5.heap n0 f7 SA SH SL f8) own_pd4 rfl rfl rfl (hb hby own_d_jdk_52_method_16_code_23) rfl ?_
    intro v9 T9 L9 X9 hQ9
    obtain ⟨b9, k9, rfl, Nq9, Kq9, g_b9, sz_b9, V9⟩ := hQ9
    have sz_b9 := Nat.le_trans K6.1 sz_b9
    have N9 := Fr.app N5 Nq9
    have K10 := K6.trans Kq9 all0
    show own_Ends p e below _ (T9.setTop (mkF m 26 #[.val (.ref c1), .val (.int (0 : Int32)), .val (.int (3 : Int32)), .val (.ref b1), .val (.int (0 : Int32)), .unset] [(.ref b9)]))
    refine own_astore X9 hx #[.val (.ref c1), .val (.int (0 : Int32)), .val (.int (3 : Int32)), .val (.ref b1), .val (.int (0 : Int32)), .val (.ref b9)] (hb hby own_d_jdk_52_method_16_code_26) rfl rfl rfl ?_
    refine own_aload X9 hx (hb hby own_d_jdk_52_method_16_code_28) rfl rfl rfl ?_
    refine own_iload X9 hx (hb hby own_d_jdk_52_method_16_code_30) rfl rfl ?_
    have f11 := (f7.keep Kq9 all0)
    refine own_static X9 hx hZ (y := (⟨"java/lang/StringUTF16", "getChar", "([BI)C"⟩ : MethodName)) hown (hw _ (List.mem_of_getElem? (i := 76) rfl)) (hw _ (List.mem_of_getElem? (i := 77) rfl)) (hw _ (List.mem_of_getElem? (i := 52) rfl)) (hw _ (List.mem_of_getElem? (i := 78) rfl)) (by decide) rfl (by decide) (W := 0) (by decide) (by decide) (by decide) [(.ref b9), (.int (0 : Int32))] [] (by rw [hml]; rfl) (own_get3_0 l Z a0 hw b9 _ x0 x1 x2 T9.heap n0 f11 SA SH SL hx0 hx1 hx2 V9) own_pd5 rfl rfl rfl (hb hby own_d_jdk_52_method_16_code_32) rfl ?_
    intro v12 T12 L12 X12 hQ12
    obtain ⟨rfl, Nq12, hh12⟩ := hQ12
    have N12 := Fr.app N9 Nq12
    show own_Ends p e below _ (T12.setTop (mkF m 35 #[.val (.ref c1), .val (.int (0 : Int32)), .val (.int (3 : Int32)), .val (.ref b1), .val (.int (0 : Int32)), .val (.ref b9)] [(.int x0)]))
    refine own_sipush X12 hx (255 : Int32) (hb hby own_d_jdk_52_method_16_code_35) (by decide) rfl ?_
    refine own_icmpT X12 hx (hb hby own_d_jdk_52_method_16_code_38) (by decide) rfl (tlt hb0).2.2.1 ?_
    refine own_aload X12 hx (hb hby own_d_jdk_52_method_16_code_54) rfl rfl rfl ?_
    exact own_retA X12 hx hlocks hret rfl rfl (hb hby own_d_jdk_52_method_16_code_56) (by decide) (by decide) ⟨b9, _, rfl, N12, by rw [hh12]; exact ⟨K10, g_b9, sz_b9, V9⟩⟩
  · refine own_istore X5 hx #[.val (.ref c1), .val (.int (0 : Int32)), .val (.int (3 : Int32)), .val (.ref b1), .val (.int (1 : Int32)), .unset] (hb hby own_d_jdk_52_method_16_code_12) rfl rfl ?_
    refine own_iload X5 hx (hb hby own_d_jdk_52_method_16_code_14) rfl rfl ?_
    refine own_iloadN X5 hx (hb hby own_d_jdk_52_method_16_code_16) rfl rfl ?_
    refine own_icmpF X5 hx (hb hby own_d_jdk_52_method_16_code_17) rfl (by decide) ?_
    refine own_aloadN X5 hx (hb hby own_d_jdk_52_method_16_code_20) rfl rfl rfl ?_
    refine own_iloadN X5 hx (hb hby own_d_jdk_52_method_16_code_21) rfl rfl ?_
    refine own_iloadN X5 hx (hb hby own_d_jdk_52_method_16_code_22) rfl rfl ?_
    have f13 := (f3.keep Kq5 (allS g_b1 all0))
    have f14 := (f4.keep Kq5 (ninS (Nat.ne_of_lt (Nat.lt_of_lt_of_le VC.lt (Nat.le_of_eq g1.symm))) nin0))
    refine own_static X5 hx hZ (y := (⟨"java/lang/StringUTF16", "toBytes", "([CII)[B"⟩ : MethodName)) hown (hw _ (List.mem_of_getElem? (i := 60) rfl)) (hw _ (List.mem_of_getElem? (i := 61) rfl)) (hw _ (List.mem_of_getElem? (i := 52) rfl)) (hw _ (List.mem_of_getElem? (i := 62) rfl)) (by decide) rfl (by decide) (W := 0) (by decide) (by decide) (by decide) [(.ref c1), (.int (0 : Int32)), (.int (3 : Int32))] [] (by rw [hml]; rfl) (own_tob3 l Z a0 hw c1 _ x0 x1 x2 T5.heap n0 f13 SA SH SL f14) own_pd4 rfl rfl rfl (hb hby own_d_jdk_52_method_16_code_23) rfl ?_
    intro v15 T15 L15 X15 hQ15
    obtain ⟨b15, k15, rfl, Nq15, Kq15, g_b15, sz_b15, V15⟩ := hQ15
    have sz_b15 := Nat.le_trans K6.1 sz_b15
    have N15 := Fr.app N5 Nq15
    have K16 := K6.trans Kq15 all0
    show own_Ends p e below _ (T15.setTop (mkF m 26 #[.val (.ref c1), .val (.int (0 : Int32)), .val (.int (3 : Int32)), .val (.ref b1), .val (.int (1 : Int32)), .unset] [(.ref b15)]))
    refine own_astore X15 hx #[.val (.ref c1), .val (.int (0 : Int32)), .val (.int (3 : Int32)), .val (.ref b1), .val (.int (1 : Int32)), .val (.ref b15)] (hb hby own_d_jdk_52_method_16_code_26) rfl rfl rfl ?_
    refine own_aload X15 hx (hb hby own_d_jdk_52_method_16_code_28) rfl rfl rfl ?_
    refine own_iload X15 hx (hb hby own_d_jdk_52_method_16_code_30) rfl rfl ?_
    have f17 := (f13.keep Kq15 all0)
    refine own_static X15 hx hZ (y := (⟨"java/lang/StringUTF16", "getChar", "([BI)C"⟩ : MethodName)) hown (hw _ (List.mem_of_getElem? (i := 76) rfl)) (hw _ (List.mem_of_getElem? (i := 77) rfl)) (hw _ (List.mem_of_getElem? (i := 52) rfl)) (hw _ (List.mem_of_getElem? (i := 78) rfl)) (by decide) rfl (by decide) (W := 0) (by decide) (by decide) (by decide) [(.ref b15), (.int (1 : Int32))] [] (by rw [hml]; rfl) (own_get3_1 l Z a0 hw b15 _ x0 x1 x2 T15.heap n0 f17 SA SH SL hx0 hx1 hx2 V15) own_pd5 rfl rfl rfl (hb hby own_d_jdk_52_method_16_code_32) rfl ?_
    intro v18 T18 L18 X18 hQ18
    obtain ⟨rfl, Nq18, hh18⟩ := hQ18
    have N18 := Fr.app N15 Nq18
    show own_Ends p e below _ (T18.setTop (mkF m 35 #[.val (.ref c1), .val (.int (0 : Int32)), .val (.int (3 : Int32)), .val (.ref b1), .val (.int (1 : Int32)), .val (.ref b15)] [(.int x1)]))
    refine own_sipush X18 hx (255 : Int32) (hb hby own_d_jdk_52_method_16_code_35) (by decide) rfl ?_
    refine own_icmpT X18 hx (hb hby own_d_jdk_52_method_16_code_38) (by decide) rfl (tlt hb1).2.2.1 ?_
    refine own_aload X18 hx (hb hby own_d_jdk_52_method_16_code_54) rfl rfl rfl ?_
    exact own_retA X18 hx hlocks hret rfl rfl (hb hby own_d_jdk_52_method_16_code_56) (by decide) (by decide) ⟨b15, _, rfl, N18, by rw [hh18]; exact ⟨K16, g_b15, sz_b15, V15⟩⟩
  · refine own_istore X5 hx #[.val (.ref c1), .val (.int (0 : Int32)), .val (.int (3 : Int32)), .val (.ref b1), .val (.int (2 : Int32)), .unset] (hb hby own_d_jdk_52_method_16_code_12) rfl rfl ?_
    refine own_iload X5 hx (hb hby own_d_jdk_52_method_16_code_14) rfl rfl ?_
    refine own_iloadN X5 hx (hb hby own_d_jdk_52_method_16_code_16) rfl rfl ?_
    refine own_icmpF X5 hx (hb hby own_d_jdk_52_method_16_code_17) rfl (by decide) ?_
    refine own_aloadN X5 hx (hb hby own_d_jdk_52_method_16_code_20) rfl rfl rfl ?_
    refine own_iloadN X5 hx (hb hby own_d_jdk_52_method_16_code_21) rfl rfl ?_
    refine own_iloadN X5 hx (hb hby own_d_jdk_52_method_16_code_22) rfl rfl ?_
    have f19 := (f3.keep Kq5 (allS g_b1 all0))
    have f20 := (f4.keep Kq5 (ninS (Nat.ne_of_lt (Nat.lt_of_lt_of_le VC.lt (Nat.le_of_eq g1.symm))) nin0))
    refine own_static X5 hx hZ (y := (⟨"java/lang/StringUTF16", "toBytes", "([CII)[B"⟩ : MethodName)) hown (hw _ (List.mem_of_getElem? (i := 60) rfl)) (hw _ (List.mem_of_getElem? (i := 61) rfl)) (hw _ (List.mem_of_getElem? (i := 52) rfl)) (hw _ (List.mem_of_getElem? (i := 62) rfl)) (by decide) rfl (by decide) (W := 0) (by decide) (by decide) (by decide) [(.ref c1), (.int (0 : Int32)), (.int (3 : Int32))] [] (by rw [hml]; rfl) (own_tob3 l Z a0 hw c1 _ x0 x1 x2 T5.heap n0 f19 SA SH SL f20) own_pd4 rfl rfl rfl (hb hby own_d_jdk_52_method_16_code_23) rfl ?_
    intro v21 T21 L21 X21 hQ21
    obtain ⟨b21, k21, rfl, Nq21, Kq21, g_b21, sz_b21, V21⟩ := hQ21
    have sz_b21 := Nat.le_trans K6.1 sz_b21
    have N21 := Fr.app N5 Nq21
    have K22 := K6.trans Kq21 all0
    show own_Ends p e below _ (T21.setTop (mkF m 26 #[.val (.ref c1), .val (.int (0 : Int32)), .val (.int (3 : Int32)), .val (.ref b1), .val (.int (2 : Int32)), .unset] [(.ref b21)]))
    refine own_astore X21 hx #[.val (.ref c1), .val (.int (0 : Int32)), .val (.int (3 : Int32)), .val (.ref b1), .val (.int (2 : Int32)), .val (.ref b21)] (hb hby own_d_jdk_52_method_16_code_26) rfl rfl rfl ?_
    refine own_aload X21 hx (hb hby own_d_jdk_52_method_16_code_28) rfl rfl rfl ?_
    refine own_iload X21 hx (hb hby own_d_jdk_52_method_16_code_30) rfl rfl ?_
    have f23 := (f19.keep Kq21 all0)
    refine own_static X21 hx hZ (y := (⟨"java/lang/StringUTF16", "getChar", "([BI)C"⟩ : MethodName)) hown (hw _ (List.mem_of_getElem? (i := 76) rfl)) (hw _ (List.mem_of_getElem? (i := 77) rfl)) (hw _ (List.mem_of_getElem? (i := 52) rfl)) (hw _ (List.mem_of_getElem? (i := 78) rfl)) (by decide) rfl (by decide) (W := 0) (by decide) (by decide) (by decide) [(.ref b21), (.int (2 : Int32))] [] (by rw [hml]; rfl) (own_get3_2 l Z a0 hw b21 _ x0 x1 x2 T21.heap n0 f23 SA SH SL hx0 hx1 hx2 V21) own_pd5 rfl rfl rfl (hb hby own_d_jdk_52_method_16_code_32) rfl ?_
    intro v24 T24 L24 X24 hQ24
    obtain ⟨rfl, Nq24, hh24⟩ := hQ24
    have N24 := Fr.app N21 Nq24
    show own_Ends p e below _ (T24.setTop (mkF m 35 #[.val (.ref c1), .val (.int (0 : Int32)), .val (.int (3 : Int32)), .val (.ref b1), .val (.int (2 : Int32)), .val (.ref b21)] [(.int x2)]))
    refine own_sipush X24 hx (255 : Int32) (hb hby own_d_jdk_52_method_16_code_35) (by decide) rfl ?_
    refine own_icmpT X24 hx (hb hby own_d_jdk_52_method_16_code_38) (by decide) rfl (tlt hb2).2.2.1 ?_
    refine own_aload X24 hx (hb hby own_d_jdk_52_method_16_code_54) rfl rfl rfl ?_
    exact own_retA X24 hx hlocks hret rfl rfl (hb hby own_d_jdk_52_method_16_code_56) (by decide) (by decide) ⟨b21, _, rfl, N24, by rw [hh24]; exact ⟨K22, g_b21, sz_b21, V21⟩⟩
set_option maxRecDepth 65536 in
set_option maxHeartbeats 40000000 in
theorem own_cdr3 (l : Launch) (Z : State) (a0 : Array Value) (hw : ∀ d ∈ tables_1, d.before a0 Z = true) (b1 : Addr) (kb : ClassId) (x0 x1 x2 : Int32) (h0 : Heap) (n0 : Nat) (VB : Arv Z h0 b1 kb .byte (6 : Int32) [.int (StrChars.lo8 x0), .int (StrChars.hi8 x0), .int (StrChars.lo8 x1), .int (StrChars.hi8 x1), .int (StrChars.lo8 x2), .int (StrChars.hi8 x2)] (.int (0 : Int32))) :
    own_Met l (⟨"java/lang/StringUTF16", "coderFromArrayLen", "([BI)B"⟩ : MethodName) jdk_52_method_15_code 2 (some .byte) ({ frames := 0, cells := 0, slots := 0, locals := 0 } : Room) Z #[(.ref b1), (.int (3 : Int32))] h0 (fun v h L => v = some (.int (1 : Int32)) ∧ Fr n0 L ∧ h = h0) := by
  refine own_met (plainFor_of_name own_pn_java_lang_StringUTF16) ?_
  intro p e s m below meth c T0 hx hby hml hZ hown hnm hret hlocks X0 e0 hh0
  have ef : entryFrame m #[(.ref b1), (.int (3 : Int32))] 2 = mkF m 0 #[.val (.ref b1), .val (.int (3 : Int32))] [] := by first | (simp [entryFrame, mkF, argsToLocals, Value.category]; done) | rfl
  refine own_entry ef ?_
  have N0 := Fr.nil n0
  refine own_iloadN X0 hx (hb hby own_d_jdk_52_method_15_code_0) rfl rfl ?_
  refine own_aloadN X0 hx (hb hby own_d_jdk_52_method_15_code_1) rfl rfl rfl ?_
  refine own_arraylength X0 hx hZ e0 VB (hb hby own_d_jdk_52_method_15_code_2) rfl ?_
  refine own_isub X0 hx (hb hby own_d_jdk_52_method_15_code_3) rfl ?_
  rw [show ((3 : Int32) - (6 : Int32)) = (-3 : Int32) from by decide]
  refine own_bipush X0 hx (31 : Int32) (hb hby own_d_jdk_52_method_15_code_4) (by decide) rfl ?_
  refine own_iushr X0 hx (hb hby own_d_jdk_52_method_15_code_6) rfl ?_
  rw [show (own_ushr (-3 : Int32) (31 : Int32)) = (1 : Int32) from by decide]
  refine own_i2b X0 hx (hb hby own_d_jdk_52_method_15_code_7) rfl ?_
  rw [show ((1 : Int32).toInt8.toInt32) = (1 : Int32) from by decide]
  exact own_retN X0 hx hlocks hret (by simp) (hb hby own_d_jdk_52_method_15_code_8) (by decide) (by decide) (by decide) ⟨rfl, N0, e0⟩
set_option maxRecDepth 65536 in
set_option maxHeartbeats 40000000 in
theorem own_wi3 (l : Launch) (Z : State) (a0 : Array Value) (hw : ∀ d ∈ tables_1, d.before a0 Z = true) (a1 : Addr) (zc : Int32) (c1 : Addr) (kc : ClassId) (x0 x1 x2 : Int32) (h0 : Heap) (n0 : Nat) (O0 : Old Z n0 h0) (SC : Sta Z Z.heap "java/lang/String" "COMPACT_STRINGS" "Z" (.int zc)) (hzc : ¬ zc = 0) (SA : Sta Z Z.heap "java/lang/StringUTF16" "$assertionsDisabled" "Z" (.int (1 : Int32))) (SH : Sta Z Z.heap "java/lang/StringUTF16" "HI_BYTE_SHIFT" "I" (.int (0 : Int32))) (SL : Sta Z Z.heap "java/lang/StringUTF16" "LO_BYTE_SHIFT" "I" (.int (8 : Int32))) (hx0 : ¬ x0 < 0 ∧ ¬ (65535 : Int32) < x0) (hx1 : ¬ x1 < 0 ∧ ¬ (65535 : Int32) < x1) (hx2 : ¬ x2 < 0 ∧ ¬ (65535 : Int32) < x2) (g_a1 : n0 ≤ a1) (E0 : Exa Z h0 a1 "java/lang/String") (F1 : Fld Z h0 a1 "java/lang/String" "value" "[B" .null) (F2 : Fld Z h0 a1 "java/lang/String" "coder" "B" (.int (0 : Int32))) (VC : Arv Z h0 c1 kc .char (3 : Int32) [.int x0, .int x1, .int x2] (.int (0 : Int32))) (HB : (255 : Int32) < x0 ∨ (255 : Int32) < x1 ∨ (255 : Int32) < x2) :
    own_Met l (⟨"java/lang/String", "<init>", "([CIILjava/lang/Void;)V"⟩ : MethodName) jdk_42_method_149_code 6 none ({ frames := 4, cells := 2, slots := 9, locals := 57 } : Room) Z #[(.ref a1), (.ref c1), (.int (0 : Int32)), (.int (3 : Int32)), .null] h0 (fun v h L => v = none ∧ Fr n0 L ∧ Keep h0 h [a1] ∧ own_Str Z h a1 [x0, x1, x2]) := by
  refine own_met (plainFor_of_name own_pn_java_lang_String) ?_
  intro p e s m below meth c T0 hx hby hml hZ hown hnm hret hlocks X0 e0 hh0
  have ef : entryFrame m #[(.ref a1), (.ref c1), (.int (0 : Int32)), (.int (3 : Int32)), .null] 6 = mkF m 0 #[.val (.ref a1), .val (.ref c1), .val (.int (0 : Int32)), .val (.int (3 : Int32)), .val .null, .unset] [] := by first | (simp [entryFrame, mkF, argsToLocals, Value.category]; done) | rfl
  refine own_entry ef ?_
  have N0 := Fr.nil n0
  have K0 := Keep.refl h0 [a1]
  have Z0 : n0 ≤ h0.size := O0.1 ▸ O0.2.1
  refine own_aloadN X0 hx (hb hby own_d_jdk_42_method_149_code_0) rfl rfl rfl ?_
  refine own_initO X0 hx hZ hown (hw _ (List.mem_of_getElem? (i := 21) rfl)) (hw _ (List.mem_of_getElem? (i := 22) rfl)) (hw _ (List.mem_of_getElem? (i := 23) rfl)) e0 (by rw [hml]; rfl) (hb hby own_d_jdk_42_method_149_code_1) 0 rfl (by decide) (by decide) rfl ?_
  intro T1 X1 e1
  refine own_iloadN X1 hx (hb hby own_d_jdk_42_method_149_code_4) rfl rfl ?_
  refine own_ifT X1 hx (hb hby own_d_jdk_42_method_149_code_5) (by decide) rfl (by decide) ?_
  refine own_getS X1 hx hZ hown (host := "") (Or.inl (hw _ (List.mem_of_getElem? (i := 43) rfl))) Via.refl e1 (SC.ext O0.2) (hb hby own_d_jdk_42_method_149_code_27) rfl ?_
  intro T2 X2 e2
  refine own_ifF X2 hx (hb hby own_d_jdk_42_method_149_code_30) rfl (feq hzc).1 ?_
  refine own_aloadN X2 hx (hb hby own_d_jdk_42_method_149_code_33) rfl rfl rfl ?_
  refine own_iloadN X2 hx (hb hby own_d_jdk_42_method_149_code_34) rfl rfl ?_
  refine own_iloadN X2 hx (hb hby own_d_jdk_42_method_149_code_35) rfl rfl ?_
  refine own_static X2 hx hZ (y := (⟨"java/lang/StringUTF16", "compress", "([CII)[B"⟩ : MethodName)) hown (hw _ (List.mem_of_getElem? (i := 50) rfl)) (hw _ (List.mem_of_getElem? (i := 51) rfl)) (hw _ (List.mem_of_getElem? (i := 52) rfl)) (hw _ (List.mem_of_getElem? (i := 53) rfl)) (by decide) e2 (by decide) (W := 0) (by decide) (by decide) (by decide) [(.ref c1), (.int (0 : Int32)), (.int (3 : Int32))] [] (by rw [hml]; rfl) (own_cmpo3 l Z a0 hw c1 _ x0 x1 x2 h0 n0 O0 SA SH SL hx0 hx1 hx2 VC HB) own_pd4 rfl rfl rfl (hb hby own_d_jdk_42_method_149_code_36) rfl ?_
  intro v3 T3 L3 X3 hQ3
  obtain ⟨b3, k3, rfl, Nq3, Kq3, g_b3, sz_b3, V3⟩ := hQ3
  have sz_b3 := Nat.le_trans K0.1 sz_b3
  have N3 := Fr.app N0 Nq3
  have K4 := K0.trans Kq3 all0
  show own_Ends p e below _ (T3.setTop (mkF m 39 #[.val (.ref a1), .val (.ref c1), .val (.int (0 : Int32)), .val (.int (3 : Int32)), .val .null, .unset] [(.ref b3)]))
  refine own_astore X3 hx #[.val (.ref a1), .val (.ref c1), .val (.int (0 : Int32)), .val (.int (3 : Int32)), .val .null, .val (.ref b3)] (hb hby own_d_jdk_42_method_149_code_39) rfl rfl rfl ?_
  refine own_aloadN X3 hx (hb hby own_d_jdk_42_method_149_code_41) rfl rfl rfl ?_
  refine own_aload X3 hx (hb hby own_d_jdk_42_method_149_code_42) rfl rfl rfl ?_
  refine own_iloadN X3 hx (hb hby own_d_jdk_42_method_149_code_44) rfl rfl ?_
  refine own_static X3 hx hZ (y := (⟨"java/lang/StringUTF16", "coderFromArrayLen", "([BI)B"⟩ : MethodName)) hown (hw _ (List.mem_of_getElem? (i := 57) rfl)) (hw _ (List.mem_of_getElem? (i := 58) rfl)) (hw _ (List.mem_of_getElem? (i := 52) rfl)) (hw _ (List.mem_of_getElem? (i := 59) rfl)) (by decide) rfl (by decide) (W := 1) (by decide) (by decide) (by decide) [(.ref b3), (.int (3 : Int32))] [(.ref a1)] (by rw [hml]; rfl) (own_cdr3 l Z a0 hw b3 _ x0 x1 x2 T3.heap n0 V3) own_pd6 rfl rfl rfl (hb hby own_d_jdk_42_method_149_code_45) rfl ?_
  intro v5 T5 L5 X5 hQ5
  obtain ⟨rfl, Nq5, hh5⟩ := hQ5
  have N5 := Fr.app N3 Nq5
  show own_Ends p e below _ (T5.setTop (mkF m 48 #[.val (.ref a1), .val (.ref c1), .val (.int (0 : Int32)), .val (.int (3 : Int32)), .val .null, .val (.ref b3)] [(.int (1 : Int32)), (.ref a1)]))
  have f6 := (F2.keep Kq3 nin0)
  have f7 := (E0.keep Kq3)
  refine own_putFN X5 hx hZ hown (hw _ (List.mem_of_getElem? (i := 31) rfl)) Via.refl hh5 (.int (1 : Int32)) f6 f7 (Or.inr ⟨(hw _ (List.mem_of_getElem? (i := 27) rfl)), rfl, hnm⟩) (hw _ (List.mem_of_getElem? (i := 11) rfl)) (ty := .byte) (by decide) rfl rfl N5 g_a1 (hb hby own_d_jdk_42_method_149_code_48) rfl ?_
  intro T8 h8 X8 e8 W8 N8
  have K9 := K4.wr W8 (Or.inl (List.mem_of_getElem? (i := 0) rfl))
  have f10 := f6.same W8
  refine own_aloadN X8 hx (hb hby own_d_jdk_42_method_149_code_51) rfl rfl rfl ?_
  refine own_aload X8 hx (hb hby own_d_jdk_42_method_149_code_52) rfl rfl rfl ?_
  have f11 := ((F1.keep Kq3 nin0).other W8 (Or.inr (slot_ne (Or.inr (hw _ (List.mem_of_getElem? (i := 26) rfl))) (Or.inr (hw _ (List.mem_of_getElem? (i := 27) rfl))) (by decide) (t := (.array .byte)) (t' := .byte) (by decide) (by decide))))
  have f12 := (f7.wr W8)
  refine own_putF X8 hx hZ hown (host := "") (Or.inl (hw _ (List.mem_of_getElem? (i := 30) rfl))) Via.refl e8 f11 f12 (Or.inr ⟨(hw _ (List.mem_of_getElem? (i := 26) rfl)), rfl, hnm⟩) (hw _ (List.mem_of_getElem? (i := 11) rfl)) (ty := (.array .byte)) (by decide) rfl rfl N8 g_a1 (hb hby own_d_jdk_42_method_149_code_54) rfl ?_
  intro T13 h13 X13 e13 W13 N13
  have K14 := K9.wr W13 (Or.inl (List.mem_of_getElem? (i := 0) rfl))
  have f15 := f11.same W13
  have f16 := (f12.wr W13)
  have f17 := (f10.other W13 (Or.inr (slot_ne (Or.inr (hw _ (List.mem_of_getElem? (i := 27) rfl))) (Or.inr (hw _ (List.mem_of_getElem? (i := 26) rfl))) (by decide) (t := .byte) (t' := (.array .byte)) (by decide) (by decide))))
  have f18 := ((V3.other W8 (Ne.symm (Exa.neArv f7 V3 (hw _ (List.mem_of_getElem? (i := 11) rfl))))).other W13 (Ne.symm (Exa.neArv f7 V3 (hw _ (List.mem_of_getElem? (i := 11) rfl)))))
  exact own_ret X13 hx hlocks hret (hb hby own_d_jdk_42_method_149_code_57) (by decide) (by decide) ⟨rfl, N13, by rw [e13]; exact ⟨K14, _, _, _, _, _, f16, f15, f17, f18, Or.inr ⟨rfl, rfl, rfl, (by rcases HB with hb | hb | hb <;> first | exact ⟨x0, List.mem_of_getElem? (i := 0) rfl, hb⟩ | exact ⟨x1, List.mem_of_getElem? (i := 1) rfl, hb⟩ | exact ⟨x2, List.mem_of_getElem? (i := 2) rfl, hb⟩)⟩, (own_c2 hx0 (own_c2 hx1 (own_c2 hx2 own_c0))), (Nat.le_of_ble_eq_true rfl)⟩⟩
set_option maxRecDepth 65536 in
set_option maxHeartbeats 40000000 in
theorem own_wd3 (l : Launch) (Z : State) (a0 : Array Value) (hw : ∀ d ∈ tables_1, d.before a0 Z = true) (a1 : Addr) (zc : Int32) (c1 : Addr) (kc : ClassId) (x0 x1 x2 : Int32) (h0 : Heap) (n0 : Nat) (O0 : Old Z n0 h0) (SC : Sta Z Z.heap "java/lang/String" "COMPACT_STRINGS" "Z" (.int zc)) (hzc : ¬ zc = 0) (SA : Sta Z Z.heap "java/lang/StringUTF16" "$assertionsDisabled" "Z" (.int (1 : Int32))) (SH : Sta Z Z.heap "java/lang/StringUTF16" "HI_BYTE_SHIFT" "I" (.int (0 : Int32))) (SL : Sta Z Z.heap "java/lang/StringUTF16" "LO_BYTE_SHIFT" "I" (.int (8 : Int32))) (hx0 : ¬ x0 < 0 ∧ ¬ (65535 : Int32) < x0) (hx1 : ¬ x1 < 0 ∧ ¬ (65535 : Int32) < x1) (hx2 : ¬ x2 < 0 ∧ ¬ (65535 : Int32) < x2) (g_a1 : n0 ≤ a1) (E0 : Exa Z h0 a1 "java/lang/String") (F1 : Fld Z h0 a1 "java/lang/String" "value" "[B" .null) (F2 : Fld Z h0 a1 "java/lang/String" "coder" "B" (.int (0 : Int32))) (VC : Arv Z h0 c1 kc .char (3 : Int32) [.int x0, .int x1, .int x2] (.int (0 : Int32))) (HB : (255 : Int32) < x0 ∨ (255 : Int32) < x1 ∨ (255 : Int32) < x2) :
    own_Met l (⟨"java/lang/String", "<init>", "([C)V"⟩ : MethodName) jdk_42_method_3_code 2 none ({ frames := 5, cells := 2, slots := 9, locals := 74 } : Room) Z #[(.ref a1), (.ref c1)] h0 (fun v h L => v = none ∧ Fr n0 L ∧ Keep h0 h [a1] ∧ own_Str Z h a1 [x0, x1, x2]) := by
  refine own_met (plainFor_of_name own_pn_java_lang_String) ?_
  intro p e s m below meth c T0 hx hby hml hZ hown hnm hret hlocks X0 e0 hh0
  have ef : entryFrame m #[(.ref a1), (.ref c1)] 2 = mkF m 0 #[.val (.ref a1), .val (.ref c1)] [] := by first | (simp [entryFrame, mkF, argsToLocals, Value.category]; done) | rfl
  refine own_entry ef ?_
  have N0 := Fr.nil n0
  have K0 := Keep.refl h0 [a1]
  have Z0 : n0 ≤ h0.size := O0.1 ▸ O0.2.1
  refine own_aloadN X0 hx (hb hby own_d_jdk_42_method_3_code_0) rfl rfl rfl ?_
  refine own_aloadN X0 hx (hb hby own_d_jdk_42_method_3_code_1) rfl rfl rfl ?_
  refine own_iconst X0 hx (0 : Int32) (hb hby own_d_jdk_42_method_3_code_2) (by decide) rfl ?_
  refine own_aloadN X0 hx (hb hby own_d_jdk_42_method_3_code_3) rfl rfl rfl ?_
  refine own_arraylength X0 hx hZ e0 VC (hb hby own_d_jdk_42_method_3_code_4) rfl ?_
  refine own_aconst_null X0 hx (hb hby own_d_jdk_42_method_3_code_5) rfl ?_
  refine own_special X0 hx hZ (y := (⟨"java/lang/String", "<init>", "([CIILjava/lang/Void;)V"⟩ : MethodName)) rfl hown (hw _ (List.mem_of_getElem? (i := 17) rfl)) (hw _ (List.mem_of_getElem? (i := 18) rfl)) (hw _ (List.mem_of_getElem? (i := 12) rfl)) (hw _ (List.mem_of_getElem? (i := 20) rfl)) (by decide) e0 (by decide) (W := 0) (by decide) (by decide) (by decide) [(.ref c1), (.int (0 : Int32)), (.int (3 : Int32)), .null] [] (by rw [hml]; rfl) (a := a1) (own_wi3 l Z a0 hw a1 zc c1 _ x0 x1 x2 h0 n0 O0 SC hzc SA SH SL hx0 hx1 hx2 g_a1 E0 F1 F2 VC HB) own_pd7 rfl rfl rfl (hb hby own_d_jdk_42_method_3_code_6) rfl ?_
  intro v1 T1 L1 X1 hQ1
  obtain ⟨rfl, Nq1, Kq1, Ss1⟩ := hQ1
  have N1 := Fr.app N0 Nq1
  have K2 := K0.trans Kq1 (allS (Or.inl (List.mem_of_getElem? (i := 0) rfl)) all0)
  show own_Ends p e below _ (T1.setTop (mkF m 9 #[.val (.ref a1), .val (.ref c1)] []))
  exact own_ret X1 hx hlocks hret (hb hby own_d_jdk_42_method_3_code_9) (by decide) (by decide) ⟨rfl, N1, K2, Ss1⟩
theorem own_wideOr3 (x0 x1 x2 : Int32) : (¬ (255 : Int32) < x0 ∧ ¬ (255 : Int32) < x1 ∧ ¬ (255 : Int32) < x2) ∨ ((255 : Int32) < x0 ∨ (255 : Int32) < x1 ∨ (255 : Int32) < x2) := by
  by_cases hb0 : (255 : Int32) < x0
  · exact Or.inr (Or.inl hb0)
  by_cases hb1 : (255 : Int32) < x1
  · exact Or.inr (Or.inr (Or.inl hb1))
  by_cases hb2 : (255 : Int32) < x2
  · exact Or.inr (Or.inr (Or.inr (hb2)))
  exact Or.inl ⟨hb0, hb1, hb2⟩
set_option maxRecDepth 65536 in
set_option maxHeartbeats 40000000 in
theorem own_nbl4 (l : Launch) (Z : State) (a0 : Array Value) (hw : ∀ d ∈ tables_1, d.before a0 Z = true)  (h0 : Heap) (n0 : Nat)  :
    own_Met l (⟨"java/lang/StringUTF16", "newBytesLength", "(I)I"⟩ : MethodName) jdk_52_method_3_code 1 (some .int) ({ frames := 0, cells := 0, slots := 0, locals := 0 } : Room) Z #[(.int (4 : Int32))] h0 (fun v h L => v = some (.int (8 : Int32)) ∧ Fr n0 L ∧ h = h0) := by
  refine own_met (plainFor_of_name own_pn_java_lang_StringUTF16) ?_
  intro p e s m below meth c T0 hx hby hml hZ hown hnm hret hlocks X0 e0 hh0
  have ef : entryFrame m #[(.int (4 : Int32))] 1 = mkF m 0 #[.val (.int (4 : Int32))] [] := by first | (simp [entryFrame, mkF, argsToLocals, Value.category]; done) | rfl
  refine own_entry ef ?_
  have N0 := Fr.nil n0
  refine own_iloadN X0 hx (hb hby own_d_jdk_52_method_3_code_0) rfl rfl ?_
  refine own_ifT X0 hx (hb hby own_d_jdk_52_method_3_code_1) (by decide) rfl (by decide) ?_
  refine own_iloadN X0 hx (hb hby own_d_jdk_52_method_3_code_12) rfl rfl ?_
  refine own_ldcInt X0 hx hZ hown (hw _ (List.mem_of_getElem? (i := 69) rfl)) (hb hby own_d_jdk_52_method_3_code_13) rfl ?_
  refine own_icmpT X0 hx (hb hby own_d_jdk_52_method_3_code_15) (by decide) rfl (by decide) ?_
  refine own_iloadN X0 hx (hb hby own_d_jdk_52_method_3_code_55) rfl rfl ?_
  refine own_iconst X0 hx (1 : Int32) (hb hby own_d_jdk_52_method_3_code_56) (by decide) rfl ?_
  refine own_ishl X0 hx (hb hby own_d_jdk_52_method_3_code_57) rfl ?_
  rw [show ((4 : Int32) <<< ((1 : Int32) &&& 31)) = (8 : Int32) from by decide]
  exact own_retI X0 hx hlocks hret (hb hby own_d_jdk_52_method_3_code_58) (by decide) (by decide) ⟨rfl, N0, e0⟩
set_option maxRecDepth 65536 in
set_option maxHeartbeats 40000000 in
theorem own_nbf4 (l : Launch) (Z : State) (a0 : Array Value) (hw : ∀ d ∈ tables_1, d.before a0 Z = true)  (h0 : Heap) (n0 : Nat) (O0 : Old Z n0 h0) :
    own_Met l (⟨"java/lang/StringUTF16", "newBytesFor", "(I)[B"⟩ : MethodName) jdk_52_method_2_code 1 (some (.array .byte)) ({ frames := 1, cells := 1, slots := 8, locals := 12 } : Room) Z #[(.int (4 : Int32))] h0 (fun v h L => ∃ (b : Addr) (k : ClassId), v = some (.ref b) ∧ Fr n0 L ∧ Keep h0 h [] ∧ n0 ≤ b ∧ h0.size ≤ b ∧ Arv Z h b k .byte (8 : Int32) [.int (0 : Int32), .int (0 : Int32), .int (0 : Int32), .int (0 : Int32), .int (0 : Int32), .int (0 : Int32), .int (0 : Int32), .int (0 : Int32)] (.int (0 : Int32))) := by
  refine own_met (plainFor_of_name own_pn_java_lang_StringUTF16) ?_
  intro p e s m below meth c T0 hx hby hml hZ hown hnm hret hlocks X0 e0 hh0
  have ef : entryFrame m #[(.int (4 : Int32))] 1 = mkF m 0 #[.val (.int (4 : Int32))] [] := by first | (simp [entryFrame, mkF, argsToLocals, Value.category]; done) | rfl
  refine own_entry ef ?_
  have N0 := Fr.nil n0
  have K0 := Keep.refl h0 []
  have Z0 : n0 ≤ h0.size := O0.1 ▸ O0.2.1
  refine own_iloadN X0 hx (hb hby own_d_jdk_52_method_2_code_0) rfl rfl ?_
  refine own_static X0 hx hZ (y := (⟨"java/lang/StringUTF16", "newBytesLength", "(I)I"⟩ : MethodName)) hown (hw _ (List.mem_of_getElem? (i := 66) rfl)) (hw _ (List.mem_of_getElem? (i := 67) rfl)) (hw _ (List.mem_of_getElem? (i := 52) rfl)) (hw _ (List.mem_of_getElem? (i := 68) rfl)) (by decide) e0 (by decide) (W := 0) (by decide) (by decide) (by decide) [(.int (4 : Int32))] [] (by rw [hml]; rfl) (own_nbl4 l Z a0 hw h0 n0) own_pd0 rfl rfl rfl (hb hby own_d_jdk_52_method_2_code_1) rfl ?_
  intro v1 T1 L1 X1 hQ1
  obtain ⟨rfl, Nq1, hh1⟩ := hQ1
  have N1 := Fr.app N0 Nq1
  show own_Ends p e below _ (T1.setTop (mkF m 4 #[.val (.int (4 : Int32))] [(.int (8 : Int32))]))
  refine own_newP X1 hx hZ (aty := .byte) (hw _ (List.mem_of_getElem? (i := 25) rfl)) hh1 (hb hby own_d_jdk_52_method_2_code_4) (by decide) 8 (by decide) (by decide) (by decide) (by decide) rfl ?_
  intro T2 h2 b2 k2 X2 e2 g2 E2 V2q
  have g_b2 : n0 ≤ b2 := Nat.le_trans (own_oz O0) (Nat.le_of_eq g2.symm)
  have sz_b2 : h0.size ≤ b2 := Nat.le_trans K0.1 (Nat.le_of_eq g2.symm)
  have K3 := K0.ext E2
  have V2 : Arv Z h2 b2 k2 .byte (8 : Int32) [(.int (0 : Int32)), (.int (0 : Int32)), (.int (0 : Int32)), (.int (0 : Int32)), (.int (0 : Int32)), (.int (0 : Int32)), (.int (0 : Int32)), (.int (0 : Int32))] (.int (0 : Int32)) := Arv.pad V2q (pad_rep [] (.int (0 : Int32)) 8)
  exact own_retA X2 hx hlocks hret rfl rfl (hb hby own_d_jdk_52_method_2_code_6) (by decide) (by decide) ⟨b2, _, rfl, N1, by rw [e2]; exact ⟨K3, g_b2, sz_b2, V2⟩⟩
set_option maxRecDepth 65536 in
set_option maxHeartbeats 40000000 in
theorem own_put4_0 (l : Launch) (Z : State) (a0 : Array Value) (hw : ∀ d ∈ tables_1, d.before a0 Z = true) (b1 : Addr) (kb : ClassId) (ch y0 y1 y2 y3 y4 y5 y6 y7 : Int32) (h0 : Heap) (n0 : Nat) (O0 : Old Z n0 h0) (SA : Sta Z Z.heap "java/lang/StringUTF16" "$assertionsDisabled" "Z" (.int (1 : Int32))) (SH : Sta Z Z.heap "java/lang/StringUTF16" "HI_BYTE_SHIFT" "I" (.int (0 : Int32))) (SL : Sta Z Z.heap "java/lang/StringUTF16" "LO_BYTE_SHIFT" "I" (.int (8 : Int32))) (g_b1 : n0 ≤ b1) (V0 : Arv Z h0 b1 kb .byte (8 : Int32) [.int y0, .int y1, .int y2, .int y3, .int y4, .int y5, .int y6, .int y7] (.int (0 : Int32))) :
    own_Met l (⟨"java/lang/StringUTF16", "putChar", "([BII)V"⟩ : MethodName) jdk_52_method_4_code 3 none ({ frames := 0, cells := 0, slots := 0, locals := 0 } : Room) Z #[(.ref b1), (.int (0 : Int32)), (.int ch)] h0 (fun v h L => v = none ∧ Fr n0 L ∧ Keep h0 h [b1] ∧ Arv Z h b1 kb .byte (8 : Int32) [.int (StrChars.lo8 ch), .int (StrChars.hi8 ch), .int y2, .int y3, .int y4, .int y5, .int y6, .int y7] (.int (0 : Int32))) := by
  refine own_met (plainFor_of_name own_pn_java_lang_StringUTF16) ?_
  intro p e s m below meth c T0 hx hby hml hZ hown hnm hret hlocks X0 e0 hh0
  have ef : entryFrame m #[(.ref b1), (.int (0 : Int32)), (.int ch)] 3 = mkF m 0 #[.val (.ref b1), .val (.int (0 : Int32)), .val (.int ch)] [] := by first | (simp [entryFrame, mkF, argsToLocals, Value.category]; done) | rfl
  refine own_entry ef ?_
  have N0 := Fr.nil n0
  have K0 := Keep.refl h0 [b1]
  have Z0 : n0 ≤ h0.size := O0.1 ▸ O0.2.1
  refine own_getS X0 hx hZ hown (host := "") (Or.inl (hw _ (List.mem_of_getElem? (i := 73) rfl))) Via.refl e0 (SA.ext O0.2) (hb hby own_d_jdk_52_method_4_code_0) rfl ?_
  intro T1 X1 e1
  refine own_ifT X1 hx (hb hby own_d_jdk_52_method_4_code_3) (by decide) rfl (by decide) ?_
  refine own_iloadN X1 hx (hb hby own_d_jdk_52_method_4_code_28) rfl rfl ?_
  refine own_iconst X1 hx (1 : Int32) (hb hby own_d_jdk_52_method_4_code_29) (by decide) rfl ?_
  refine own_ishl X1 hx (hb hby own_d_jdk_52_method_4_code_30) rfl ?_
  rw [show ((0 : Int32) <<< ((1 : Int32) &&& 31)) = (0 : Int32) from by decide]
  refine own_istoreN X1 hx #[.val (.ref b1), .val (.int (0 : Int32)), .val (.int ch)] (hb hby own_d_jdk_52_method_4_code_31) rfl rfl ?_
  refine own_aloadN X1 hx (hb hby own_d_jdk_52_method_4_code_32) rfl rfl rfl ?_
  refine own_iloadN X1 hx (hb hby own_d_jdk_52_method_4_code_33) rfl rfl ?_
  refine own_iinc X1 hx #[.val (.ref b1), .val (.int (1 : Int32)), .val (.int ch)] (hb hby own_d_jdk_52_method_4_code_34) rfl rfl rfl ?_
  refine own_iloadN X1 hx (hb hby own_d_jdk_52_method_4_code_37) rfl rfl ?_
  refine own_getS X1 hx hZ hown (host := "") (Or.inl (hw _ (List.mem_of_getElem? (i := 74) rfl))) Via.refl e1 (SH.ext O0.2) (hb hby own_d_jdk_52_method_4_code_38) rfl ?_
  intro T2 X2 e2
  refine own_ishr X2 hx (hb hby own_d_jdk_52_method_4_code_41) rfl ?_
  refine own_i2b X2 hx (hb hby own_d_jdk_52_method_4_code_42) rfl ?_
  rw [show ((ch >>> ((0 : Int32) &&& 31)).toInt8.toInt32) = (StrChars.lo8 ch) from own_lo0 ch]
  refine own_stB X2 hx hZ e2 V0 ⟨by decide, by decide⟩ 0 rfl (Nat.le_of_ble_eq_true rfl) (own_lo8L ch) N0 g_b1 (hb hby own_d_jdk_52_method_4_code_43) rfl ?_
  intro T3 h3 X3 e3 W3 N3 V3
  have K4 := K0.wr W3 (Or.inl (List.mem_of_getElem? (i := 0) rfl))
  refine own_aloadN X3 hx (hb hby own_d_jdk_52_method_4_code_44) rfl rfl rfl ?_
  refine own_iloadN X3 hx (hb hby own_d_jdk_52_method_4_code_45) rfl rfl ?_
  refine own_iloadN X3 hx (hb hby own_d_jdk_52_method_4_code_46) rfl rfl ?_
  have f5 := (O0.wr W3 g_b1)
  refine own_getS X3 hx hZ hown (host := "") (Or.inl (hw _ (List.mem_of_getElem? (i := 75) rfl))) Via.refl e3 (SL.ext f5.2) (hb hby own_d_jdk_52_method_4_code_47) rfl ?_
  intro T6 X6 e6
  refine own_ishr X6 hx (hb hby own_d_jdk_52_method_4_code_50) rfl ?_
  refine own_i2b X6 hx (hb hby own_d_jdk_52_method_4_code_51) rfl ?_
  rw [show ((ch >>> ((8 : Int32) &&& 31)).toInt8.toInt32) = (StrChars.hi8 ch) from rfl]
  refine own_stB X6 hx hZ e6 V3 ⟨by decide, by decide⟩ 1 rfl (Nat.le_of_ble_eq_true rfl) (own_lo8H ch) N3 g_b1 (hb hby own_d_jdk_52_method_4_code_52) rfl ?_
  intro T7 h7 X7 e7 W7 N7 V7
  have K8 := K4.wr W7 (Or.inl (List.mem_of_getElem? (i := 0) rfl))
  exact own_ret X7 hx hlocks hret (hb hby own_d_jdk_52_method_4_code_53) (by decide) (by decide) ⟨rfl, N7, by rw [e7]; exact ⟨K8, V7⟩⟩
set_option maxRecDepth 65536 in
set_option maxHeartbeats 40000000 in
theorem own_get4_0 (l : Launch) (Z : State) (a0 : Array Value) (hw : ∀ d ∈ tables_1, d.before a0 Z = true) (b1 : Addr) (kb : ClassId) (x0 x1 x2 x3 : Int32) (h0 : Heap) (n0 : Nat) (O0 : Old Z n0 h0) (SA : Sta Z Z.heap "java/lang/StringUTF16" "$assertionsDisabled" "Z" (.int (1 : Int32))) (SH : Sta Z Z.heap "java/lang/StringUTF16" "HI_BYTE_SHIFT" "I" (.int (0 : Int32))) (SL : Sta Z Z.heap "java/lang/StringUTF16" "LO_BYTE_SHIFT" "I" (.int (8 : Int32))) (hx0 : ¬ x0 < 0 ∧ ¬ (65535 : Int32) < x0) (hx1 : ¬ x1 < 0 ∧ ¬ (65535 : Int32) < x1) (hx2 : ¬ x2 < 0 ∧ ¬ (65535 : Int32) < x2) (hx3 : ¬ x3 < 0 ∧ ¬ (65535 : Int32) < x3) (V0 : Arv Z h0 b1 kb .byte (8 : Int32) [.int (StrChars.lo8 x0), .int (StrChars.hi8 x0), .int (StrChars.lo8 x1), .int (StrChars.hi8 x1), .int (StrChars.lo8 x2), .int (StrChars.hi8 x2), .int (StrChars.lo8 x3), .int (StrChars.hi8 x3)] (.int (0 : Int32))) :
    own_Met l (⟨"java/lang/StringUTF16", "getChar", "([BI)C"⟩ : MethodName) jdk_52_method_5_code 2 (some .char) ({ frames := 0, cells := 0, slots := 0, locals := 0 } : Room) Z #[(.ref b1), (.int (0 : Int32))] h0 (fun v h L => v = some (.int x0) ∧ Fr n0 L ∧ h = h0) := by
  refine own_met (plainFor_of_name own_pn_java_lang_StringUTF16) ?_
  intro p e s m below meth c T0 hx hby hml hZ hown hnm hret hlocks X0 e0 hh0
  have ef : entryFrame m #[(.ref b1), (.int (0 : Int32))] 2 = mkF m 0 #[.val (.ref b1), .val (.int (0 : Int32))] [] := by first | (simp [entryFrame, mkF, argsToLocals, Value.category]; done) | rfl
  refine own_entry ef ?_
  have N0 := Fr.nil n0
  have K0 := Keep.refl h0 []
  have Z0 : n0 ≤ h0.size := O0.1 ▸ O0.2.1
  refine own_getS X0 hx hZ hown (host := "") (Or.inl (hw _ (List.mem_of_getElem? (i := 73) rfl))) Via.refl e0 (SA.ext O0.2) (hb hby own_d_jdk_52_method_5_code_0) rfl ?_
  intro T1 X1 e1
  refine own_ifT X1 hx (hb hby own_d_jdk_52_method_5_code_3) (by decide) rfl (by decide) ?_
  refine own_iloadN X1 hx (hb hby own_d_jdk_52_method_5_code_28) rfl rfl ?_
  refine own_iconst X1 hx (1 : Int32) (hb hby own_d_jdk_52_method_5_code_29) (by decide) rfl ?_
  refine own_ishl X1 hx (hb hby own_d_jdk_52_method_5_code_30) rfl ?_
  rw [show ((0 : Int32) <<< ((1 : Int32) &&& 31)) = (0 : Int32) from by decide]
  refine own_istoreN X1 hx #[.val (.ref b1), .val (.int (0 : Int32))] (hb hby own_d_jdk_52_method_5_code_31) rfl rfl ?_
  refine own_aloadN X1 hx (hb hby own_d_jdk_52_method_5_code_32) rfl rfl rfl ?_
  refine own_iloadN X1 hx (hb hby own_d_jdk_52_method_5_code_33) rfl rfl ?_
  refine own_iinc X1 hx #[.val (.ref b1), .val (.int (1 : Int32))] (hb hby own_d_jdk_52_method_5_code_34) rfl rfl rfl ?_
  refine own_baloadBytes X1 hx hZ e1 V0 ⟨by decide, by decide⟩ rfl (hb hby own_d_jdk_52_method_5_code_37) rfl ?_
  refine own_sipush X1 hx (255 : Int32) (hb hby own_d_jdk_52_method_5_code_38) (by decide) rfl ?_
  refine own_iand X1 hx (hb hby own_d_jdk_52_method_5_code_41) rfl ?_
  refine own_getS X1 hx hZ hown (host := "") (Or.inl (hw _ (List.mem_of_getElem? (i := 74) rfl))) Via.refl e1 (SH.ext O0.2) (hb hby own_d_jdk_52_method_5_code_42) rfl ?_
  intro T2 X2 e2
  refine own_ishl X2 hx (hb hby own_d_jdk_52_method_5_code_45) rfl ?_
  refine own_aloadN X2 hx (hb hby own_d_jdk_52_method_5_code_46) rfl rfl rfl ?_
  refine own_iloadN X2 hx (hb hby own_d_jdk_52_method_5_code_47) rfl rfl ?_
  refine own_baloadBytes X2 hx hZ e2 V0 ⟨by decide, by decide⟩ rfl (hb hby own_d_jdk_52_method_5_code_48) rfl ?_
  refine own_sipush X2 hx (255 : Int32) (hb hby own_d_jdk_52_method_5_code_49) (by decide) rfl ?_
  refine own_iand X2 hx (hb hby own_d_jdk_52_method_5_code_52) rfl ?_
  refine own_getS X2 hx hZ hown (host := "") (Or.inl (hw _ (List.mem_of_getElem? (i := 75) rfl))) Via.refl e2 (SL.ext O0.2) (hb hby own_d_jdk_52_method_5_code_53) rfl ?_
  intro T3 X3 e3
  refine own_ishl X3 hx (hb hby own_d_jdk_52_method_5_code_56) rfl ?_
  refine own_ior X3 hx (hb hby own_d_jdk_52_method_5_code_57) rfl ?_
  refine own_i2c X3 hx (hb hby own_d_jdk_52_method_5_code_58) rfl ?_
  rw [show (((((StrChars.lo8 x0) &&& (255 : Int32)) <<< ((0 : Int32) &&& 31)) ||| (((StrChars.hi8 x0) &&& (255 : Int32)) <<< ((8 : Int32) &&& 31))).toUInt32.toUInt16.toUInt32.toInt32) = x0 from StrChars.pair_says hx0.1 hx0.2]
  exact own_retN X3 hx hlocks hret (by simp) (hb hby own_d_jdk_52_method_5_code_59) (by decide) (by decide) (own_narC2 hx0) ⟨rfl, N0, e3⟩
set_option maxRecDepth 65536 in
set_option maxHeartbeats 40000000 in
theorem own_put4_1 (l : Launch) (Z : State) (a0 : Array Value) (hw : ∀ d ∈ tables_1, d.before a0 Z = true) (b1 : Addr) (kb : ClassId) (ch y0 y1 y2 y3 y4 y5 y6 y7 : Int32) (h0 : Heap) (n0 : Nat) (O0 : Old Z n0 h0) (SA : Sta Z Z.heap "java/lang/StringUTF16" "$assertionsDisabled" "Z" (.int (1 : Int32))) (SH : Sta Z Z.heap "java/lang/StringUTF16" "HI_BYTE_SHIFT" "I" (.int (0 : Int32))) (SL : Sta Z Z.heap "java/lang/StringUTF16" "LO_BYTE_SHIFT" "I" (.int (8 : Int32))) (g_b1 : n0 ≤ b1) (V0 : Arv Z h0 b1 kb .byte (8 : Int32) [.int y0, .int y1, .int y2, .int y3, .int y4, .int y5, .int y6, .int y7] (.int (0 : Int32))) :
    own_Met l (⟨"java/lang/StringUTF16", "putChar", "([BII)V"⟩ : MethodName) jdk_52_method_4_code 3 none ({ frames := 0, cells := 0, slots := 0, locals := 0 } : Room) Z #[(.ref b1), (.int (1 : Int32)), (.int ch)] h0 (fun v h L => v = none ∧ Fr n0 L ∧ Keep h0 h [b1] ∧ Arv Z h b1 kb .byte (8 : Int32) [.int y0, .int y1, .int (StrChars.lo8 ch), .int (StrChars.hi8 ch), .int y4, .int y5, .int y6, .int y7] (.int (0 : Int32))) := by
  refine own_met (plainFor_of_name own_pn_java_lang_StringUTF16) ?_
  intro p e s m below meth c T0 hx hby hml hZ hown hnm hret hlocks X0 e0 hh0
  have ef : entryFrame m #[(.ref b1), (.int (1 : Int32)), (.int ch)] 3 = mkF m 0 #[.val (.ref b1), .val (.int (1 : Int32)), .val (.int ch)] [] := by first | (simp [entryFrame, mkF, argsToLocals, Value.category]; done) | rfl
  refine own_entry ef ?_
  have N0 := Fr.nil n0
  have K0 := Keep.refl h0 [b1]
  have Z0 : n0 ≤ h0.size := O0.1 ▸ O0.2.1
  refine own_getS X0 hx hZ hown (host := "") (Or.inl (hw _ (List.mem_of_getElem? (i := 73) rfl))) Via.refl e0 (SA.ext O0.2) (hb hby own_d_jdk_52_method_4_code_0) rfl ?_
  intro T1 X1 e1
  refine own_ifT X1 hx (hb hby own_d_jdk_52_method_4_code_3) (by decide) rfl (by decide) ?_
  refine own_iloadN X1 hx (hb hby own_d_jdk_52_method_4_code_28) rfl rfl ?_
  refine own_iconst X1 hx (1 : Int32) (hb hby own_d_jdk_52_method_4_code_29) (by decide) rfl ?_
  refine own_ishl X1 hx (hb hby own_d_jdk_52_method_4_code_30) rfl ?_
  rw [show ((1 : Int32) <<< ((1 : Int32) &&& 31)) = (2 : Int32) from by decide]
  refine own_istoreN X1 hx #[.val (.ref b1), .val (.int (2 : Int32)), .val (.int ch)] (hb hby own_d_jdk_52_method_4_code_31) rfl rfl ?_
  refine own_aloadN X1 hx (hb hby own_d_jdk_52_method_4_code_32) rfl rfl rfl ?_
  refine own_iloadN X1 hx (hb hby own_d_jdk_52_method_4_code_33) rfl rfl ?_
  refine own_iinc X1 hx #[.val (.ref b1), .val (.int (3 : Int32)), .val (.int ch)] (hb hby own_d_jdk_52_method_4_code_34) rfl rfl rfl ?_
  refine own_iloadN X1 hx (hb hby own_d_jdk_52_method_4_code_37) rfl rfl ?_
  refine own_getS X1 hx hZ hown (host := "") (Or.inl (hw _ (List.mem_of_getElem? (i := 74) rfl))) Via.refl e1 (SH.ext O0.2) (hb hby own_d_jdk_52_method_4_code_38) rfl ?_
  intro T2 X2 e2
  refine own_ishr X2 hx (hb hby own_d_jdk_52_method_4_code_41) rfl ?_
  refine own_i2b X2 hx (hb hby own_d_jdk_52_method_4_code_42) rfl ?_
  rw [show ((ch >>> ((0 : Int32) &&& 31)).toInt8.toInt32) = (StrChars.lo8 ch) from own_lo0 ch]
  refine own_stB X2 hx hZ e2 V0 ⟨by decide, by decide⟩ 2 rfl (Nat.le_of_ble_eq_true rfl) (own_lo8L ch) N0 g_b1 (hb hby own_d_jdk_52_method_4_code_43) rfl ?_
  intro T3 h3 X3 e3 W3 N3 V3
  have K4 := K0.wr W3 (Or.inl (List.mem_of_getElem? (i := 0) rfl))
  refine own_aloadN X3 hx (hb hby own_d_jdk_52_method_4_code_44) rfl rfl rfl ?_
  refine own_iloadN X3 hx (hb hby own_d_jdk_52_method_4_code_45) rfl rfl ?_
  refine own_iloadN X3 hx (hb hby own_d_jdk_52_method_4_code_46) rfl rfl ?_
  have f5 := (O0.wr W3 g_b1)
  refine own_getS X3 hx hZ hown (host := "") (Or.inl (hw _ (List.mem_of_getElem? (i := 75) rfl))) Via.refl e3 (SL.ext f5.2) (hb hby own_d_jdk_52_method_4_code_47) rfl ?_
  intro T6 X6 e6
  refine own_ishr X6 hx (hb hby own_d_jdk_52_method_4_code_50) rfl ?_
  refine own_i2b X6 hx (hb hby own_d_jdk_52_method_4_code_51) rfl ?_
  rw [show ((ch >>> ((8 : Int32) &&& 31)).toInt8.toInt32) = (StrChars.hi8 ch) from rfl]
  refine own_stB X6 hx hZ e6 V3 ⟨by decide, by decide⟩ 3 rfl (Nat.le_of_ble_eq_true rfl) (own_lo8H ch) N3 g_b1 (hb hby own_d_jdk_52_method_4_code_52) rfl ?_
  intro T7 h7 X7 e7 W7 N7 V7
  have K8 := K4.wr W7 (Or.inl (List.mem_of_getElem? (i := 0) rfl))
  exact own_ret X7 hx hlocks hret (hb hby own_d_jdk_52_method_4_code_53) (by decide) (by decide) ⟨rfl, N7, by rw [e7]; exact ⟨K8, V7⟩⟩
set_option maxRecDepth 65536 in
set_option maxHeartbeats 40000000 in
theorem own_get4_1 (l : Launch) (Z : State) (a0 : Array Value) (hw : ∀ d ∈ tables_1, d.before a0 Z = true) (b1 : Addr) (kb : ClassId) (x0 x1 x2 x3 : Int32) (h0 : Heap) (n0 : Nat) (O0 : Old Z n0 h0) (SA : Sta Z Z.heap "java/lang/StringUTF16" "$assertionsDisabled" "Z" (.int (1 : Int32))) (SH : Sta Z Z.heap "java/lang/StringUTF16" "HI_BYTE_SHIFT" "I" (.int (0 : Int32))) (SL : Sta Z Z.heap "java/lang/StringUTF16" "LO_BYTE_SHIFT" "I" (.int (8 : Int32))) (hx0 : ¬ x0 < 0 ∧ ¬ (65535 : Int32) < x0) (hx1 : ¬ x1 < 0 ∧ ¬ (65535 : Int32) < x1) (hx2 : ¬ x2 < 0 ∧ ¬ (65535 : Int32) < x2) (hx3 : ¬ x3 < 0 ∧ ¬ (65535 : Int32) < x3) (V0 : Arv Z h0 b1 kb .byte (8 : Int32) [.int (StrChars.lo8 x0), .int (StrChars.hi8 x0), .int (StrChars.lo8 x1), .int (StrChars.hi8 x1), .int (StrChars.lo8 x2), .int (StrChars.hi8 x2), .int (StrChars.lo8 x3), .int (StrChars.hi8 x3)] (.int (0 : Int32))) :
    own_Met l (⟨"java/lang/StringUTF16", "getChar", "([BI)C"⟩ : MethodName) jdk_52_method_5_code 2 (some .char) ({ frames := 0, cells := 0, slots := 0, locals := 0 } : Room) Z #[(.ref b1), (.int (1 : Int32))] h0 (fun v h L => v = some (.int x1) ∧ Fr n0 L ∧ h = h0) := by
  refine own_met (plainFor_of_name own_pn_java_lang_StringUTF16) ?_
  intro p e s m below meth c T0 hx hby hml hZ hown hnm hret hlocks X0 e0 hh0
  have ef : entryFrame m #[(.ref b1), (.int (1 : Int32))] 2 = mkF m 0 #[.val (.ref b1), .val (.int (1 : Int32))] [] := by first | (simp [entryFrame, mkF, argsToLocals, Value.category]; done) | rfl
  refine own_entry ef ?_
  have N0 := Fr.nil n0
  have K0 := Keep.refl h0 []
  have Z0 : n0 ≤ h0.size := O0.1 ▸ O0.2.1
  refine own_getS X0 hx hZ hown (host := "") (Or.inl (hw _ (List.mem_of_getElem? (i := 73) rfl))) Via.refl e0 (SA.ext O0.2) (hb hby own_d_jdk_52_method_5_code_0) rfl ?_
  intro T1 X1 e1
  refine own_ifT X1 hx (hb hby own_d_jdk_52_method_5_code_3) (by decide) rfl (by decide) ?_
  refine own_iloadN X1 hx (hb hby own_d_jdk_52_method_5_code_28) rfl rfl ?_
  refine own_iconst X1 hx (1 : Int32) (hb hby own_d_jdk_52_method_5_code_29) (by decide) rfl ?_
  refine own_ishl X1 hx (hb hby own_d_jdk_52_method_5_code_30) rfl ?_
  rw [show ((1 : Int32) <<< ((1 : Int32) &&& 31)) = (2 : Int32) from by decide]
  refine own_istoreN X1 hx #[.val (.ref b1), .val (.int (2 : Int32))] (hb hby own_d_jdk_52_method_5_code_31) rfl rfl ?_
  refine own_aloadN X1 hx (hb hby own_d_jdk_52_method_5_code_32) rfl rfl rfl ?_
  refine own_iloadN X1 hx (hb hby own_d_jdk_52_method_5_code_33) rfl rfl ?_
  refine own_iinc X1 hx #[.val (.ref b1), .val (.int (3 : Int32))] (hb hby own_d_jdk_52_method_5_code_34) rfl rfl rfl ?_
  refine own_baloadBytes X1 hx hZ e1 V0 ⟨by decide, by decide⟩ rfl (hb hby own_d_jdk_52_method_5_code_37) rfl ?_
  refine own_sipush X1 hx (255 : Int32) (hb hby own_d_jdk_52_method_5_code_38) (by decide) rfl ?_
  refine own_iand X1 hx (hb hby own_d_jdk_52_method_5_code_41) rfl ?_
  refine own_getS X1 hx hZ hown (host := "") (Or.inl (hw _ (List.mem_of_getElem? (i := 74) rfl))) Via.refl e1 (SH.ext O0.2) (hb hby own_d_jdk_52_method_5_code_42) rfl ?_
  intro T2 X2 e2
  refine own_ishl X2 hx (hb hby own_d_jdk_52_method_5_code_45) rfl ?_
  refine own_aloadN X2 hx (hb hby own_d_jdk_52_method_5_code_46) rfl rfl rfl ?_
  refine own_iloadN X2 hx (hb hby own_d_jdk_52_method_5_code_47) rfl rfl ?_
  refine own_baloadBytes X2 hx hZ e2 V0 ⟨by decide, by decide⟩ rfl (hb hby own_d_jdk_52_method_5_code_48) rfl ?_
  refine own_sipush X2 hx (255 : Int32) (hb hby own_d_jdk_52_method_5_code_49) (by decide) rfl ?_
  refine own_iand X2 hx (hb hby own_d_jdk_52_method_5_code_52) rfl ?_
  refine own_getS X2 hx hZ hown (host := "") (Or.inl (hw _ (List.mem_of_getElem? (i := 75) rfl))) Via.refl e2 (SL.ext O0.2) (hb hby own_d_jdk_52_method_5_code_53) rfl ?_
  intro T3 X3 e3
  refine own_ishl X3 hx (hb hby own_d_jdk_52_method_5_code_56) rfl ?_
  refine own_ior X3 hx (hb hby own_d_jdk_52_method_5_code_57) rfl ?_
  refine own_i2c X3 hx (hb hby own_d_jdk_52_method_5_code_58) rfl ?_
  rw [show (((((StrChars.lo8 x1) &&& (255 : Int32)) <<< ((0 : Int32) &&& 31)) ||| (((StrChars.hi8 x1) &&& (255 : Int32)) <<< ((8 : Int32) &&& 31))).toUInt32.toUInt16.toUInt32.toInt32) = x1 from StrChars.pair_says hx1.1 hx1.2]
  exact own_retN X3 hx hlocks hret (by simp) (hb hby own_d_jdk_52_method_5_code_59) (by decide) (by decide) (own_narC2 hx1) ⟨rfl, N0, e3⟩
set_option maxRecDepth 65536 in
set_option maxHeartbeats 40000000 in
theorem own_put4_2 (l : Launch) (Z : State) (a0 : Array Value) (hw : ∀ d ∈ tables_1, d.before a0 Z = true) (b1 : Addr) (kb : ClassId) (ch y0 y1 y2 y3 y4 y5 y6 y7 : Int32) (h0 : Heap) (n0 : Nat) (O0 : Old Z n0 h0) (SA : Sta Z Z.heap "java/lang/StringUTF16" "$assertionsDisabled" "Z" (.int (1 : Int32))) (SH : Sta Z Z.heap "java/lang/StringUTF16" "HI_BYTE_SHIFT" "I" (.int (0 : Int32))) (SL : Sta Z Z.heap "java/lang/StringUTF16" "LO_BYTE_SHIFT" "I" (.int (8 : Int32))) (g_b1 : n0 ≤ b1) (V0 : Arv Z h0 b1 kb .byte (8 : Int32) [.int y0, .int y1, .int y2, .int y3, .int y4, .int y5, .int y6, .int y7] (.int (0 : Int32))) :
    own_Met l (⟨"java/lang/StringUTF16", "putChar", "([BII)V"⟩ : MethodName) jdk_52_method_4_code 3 none ({ frames := 0, cells := 0, slots := 0, locals := 0 } : Room) Z #[(.ref b1), (.int (2 : Int32)), (.int ch)] h0 (fun v h L => v = none ∧ Fr n0 L ∧ Keep h0 h [b1] ∧ Arv Z h b1 kb .byte (8 : Int32) [.int y0, .int y1, .int y2, .int y3, .int (StrChars.lo8 ch), .int (StrChars.hi8 ch), .int y6, .int y7] (.int (0 : Int32))) := by
  refine own_met (plainFor_of_name own_pn_java_lang_StringUTF16) ?_
  intro p e s m below meth c T0 hx hby hml hZ hown hnm hret hlocks X0 e0 hh0
  have ef : entryFrame m #[(.ref b1), (.int (2 : Int32)), (.int ch)] 3 = mkF m 0 #[.val (.ref b1), .val (.int (2 : Int32)), .val (.int ch)] [] := by first | (simp [entryFrame, mkF, argsToLocals, Value.category]; done) | rfl
  refine own_entry ef ?_
  have N0 := Fr.nil n0
  have K0 := Keep.refl h0 [b1]
  have Z0 : n0 ≤ h0.size := O0.1 ▸ O0.2.1
  refine own_getS X0 hx hZ hown (host := "") (Or.inl (hw _ (List.mem_of_getElem? (i := 73) rfl))) Via.refl e0 (SA.ext O0.2) (hb hby own_d_jdk_52_method_4_code_0) rfl ?_
  intro T1 X1 e1
  refine own_ifT X1 hx (hb hby own_d_jdk_52_method_4_code_3) (by decide) rfl (by decide) ?_
  refine own_iloadN X1 hx (hb hby own_d_jdk_52_method_4_code_28) rfl rfl ?_
  refine own_iconst X1 hx (1 : Int32) (hb hby own_d_jdk_52_method_4_code_29) (by decide) rfl ?_
  refine own_ishl X1 hx (hb hby own_d_jdk_52_method_4_code_30) rfl ?_
  rw [show ((2 : Int32) <<< ((1 : Int32) &&& 31)) = (4 : Int32) from by decide]
  refine own_istoreN X1 hx #[.val (.ref b1), .val (.int (4 : Int32)), .val (.int ch)] (hb hby own_d_jdk_52_method_4_code_31) rfl rfl ?_
  refine own_aloadN X1 hx (hb hby own_d_jdk_52_method_4_code_32) rfl rfl rfl ?_
  refine own_iloadN X1 hx (hb hby own_d_jdk_52_method_4_code_33) rfl rfl ?_
  refine own_iinc X1 hx #[.val (.ref b1), .val (.int (5 : Int32)), .val (.int ch)] (hb hby own_d_jdk_52_method_4_code_34) rfl rfl rfl ?_
  refine own_iloadN X1 hx (hb hby own_d_jdk_52_method_4_code_37) rfl rfl ?_
  refine own_getS X1 hx hZ hown (host := "") (Or.inl (hw _ (List.mem_of_getElem? (i := 74) rfl))) Via.refl e1 (SH.ext O0.2) (hb hby own_d_jdk_52_method_4_code_38) rfl ?_
  intro T2 X2 e2
  refine own_ishr X2 hx (hb hby own_d_jdk_52_method_4_code_41) rfl ?_
  refine own_i2b X2 hx (hb hby own_d_jdk_52_method_4_code_42) rfl ?_
  rw [show ((ch >>> ((0 : Int32) &&& 31)).toInt8.toInt32) = (StrChars.lo8 ch) from own_lo0 ch]
  refine own_stB X2 hx hZ e2 V0 ⟨by decide, by decide⟩ 4 rfl (Nat.le_of_ble_eq_true rfl) (own_lo8L ch) N0 g_b1 (hb hby own_d_jdk_52_method_4_code_43) rfl ?_
  intro T3 h3 X3 e3 W3 N3 V3
  have K4 := K0.wr W3 (Or.inl (List.mem_of_getElem? (i := 0) rfl))
  refine own_aloadN X3 hx (hb hby own_d_jdk_52_method_4_code_44) rfl rfl rfl ?_
  refine own_iloadN X3 hx (hb hby own_d_jdk_52_method_4_code_45) rfl rfl ?_
  refine own_iloadN X3 hx (hb hby own_d_jdk_52_method_4_code_46) rfl rfl ?_
  have f5 := (O0.wr W3 g_b1)
  refine own_getS X3 hx hZ hown (host := "") (Or.inl (hw _ (List.mem_of_getElem? (i := 75) rfl))) Via.refl e3 (SL.ext f5.2) (hb hby own_d_jdk_52_method_4_code_47) rfl ?_
  intro T6 X6 e6
  refine own_ishr X6 hx (hb hby own_d_jdk_52_method_4_code_50) rfl ?_
  refine own_i2b X6 hx (hb hby own_d_jdk_52_method_4_code_51) rfl ?_
  rw [show ((ch >>> ((8 : Int32) &&& 31)).toInt8.toInt32) = (StrChars.hi8 ch) from rfl]
  refine own_stB X6 hx hZ e6 V3 ⟨by decide, by decide⟩ 5 rfl (Nat.le_of_ble_eq_true rfl) (own_lo8H ch) N3 g_b1 (hb hby own_d_jdk_52_method_4_code_52) rfl ?_
  intro T7 h7 X7 e7 W7 N7 V7
  have K8 := K4.wr W7 (Or.inl (List.mem_of_getElem? (i := 0) rfl))
  exact own_ret X7 hx hlocks hret (hb hby own_d_jdk_52_method_4_code_53) (by decide) (by decide) ⟨rfl, N7, by rw [e7]; exact ⟨K8, V7⟩⟩
set_option maxRecDepth 65536 in
set_option maxHeartbeats 40000000 in
theorem own_get4_2 (l : Launch) (Z : State) (a0 : Array Value) (hw : ∀ d ∈ tables_1, d.before a0 Z = true) (b1 : Addr) (kb : ClassId) (x0 x1 x2 x3 : Int32) (h0 : Heap) (n0 : Nat) (O0 : Old Z n0 h0) (SA : Sta Z Z.heap "java/lang/StringUTF16" "$assertionsDisabled" "Z" (.int (1 : Int32))) (SH : Sta Z Z.heap "java/lang/StringUTF16" "HI_BYTE_SHIFT" "I" (.int (0 : Int32))) (SL : Sta Z Z.heap "java/lang/StringUTF16" "LO_BYTE_SHIFT" "I" (.int (8 : Int32))) (hx0 : ¬ x0 < 0 ∧ ¬ (65535 : Int32) < x0) (hx1 : ¬ x1 < 0 ∧ ¬ (65535 : Int32) < x1) (hx2 : ¬ x2 < 0 ∧ ¬ (65535 : Int32) < x2) (hx3 : ¬ x3 < 0 ∧ ¬ (65535 : Int32) < x3) (V0 : Arv Z h0 b1 kb .byte (8 : Int32) [.int (StrChars.lo8 x0), .int (StrChars.hi8 x0), .int (StrChars.lo8 x1), .int (StrChars.hi8 x1), .int (StrChars.lo8 x2), .int (StrChars.hi8 x2), .int (StrChars.lo8 x3), .int (StrChars.hi8 x3)] (.int (0 : Int32))) :
    own_Met l (⟨"java/lang/StringUTF16", "getChar", "([BI)C"⟩ : MethodName) jdk_52_method_5_code 2 (some .char) ({ frames := 0, cells := 0, slots := 0, locals := 0 } : Room) Z #[(.ref b1), (.int (2 : Int32))] h0 (fun v h L => v = some (.int x2) ∧ Fr n0 L ∧ h = h0) := by
  refine own_met (plainFor_of_name own_pn_java_lang_StringUTF16) ?_
  intro p e s m below meth c T0 hx hby hml hZ hown hnm hret hlocks X0 e0 hh0
  have ef : entryFrame m #[(.ref b1), (.int (2 : Int32))] 2 = mkF m 0 #[.val (.ref b1), .val (.int (2 : Int32))] [] := by first | (simp [entryFrame, mkF, argsToLocals, Value.category]; done) | rfl
  refine own_entry ef ?_
  have N0 := Fr.nil n0
  have K0 := Keep.refl h0 []
  have Z0 : n0 ≤ h0.size := O0.1 ▸ O0.2.1
  refine own_getS X0 hx hZ hown (host := "") (Or.inl (hw _ (List.mem_of_getElem? (i := 73) rfl))) Via.refl e0 (SA.ext O0.2) (hb hby own_d_jdk_52_method_5_code_0) rfl ?_
  intro T1 X1 e1
  refine own_ifT X1 hx (hb hby own_d_jdk_52_method_5_code_3) (by decide) rfl (by decide) ?_
  refine own_iloadN X1 hx (hb hby own_d_jdk_52_method_5_code_28) rfl rfl ?_
  refine own_iconst X1 hx (1 : Int32) (hb hby own_d_jdk_52_method_5_code_29) (by decide) rfl ?_
  refine own_ishl X1 hx (hb hby own_d_jdk_52_method_5_code_30) rfl ?_
  rw [show ((2 : Int32) <<< ((1 : Int32) &&& 31)) = (4 : Int32) from by decide]
  refine own_istoreN X1 hx #[.val (.ref b1), .val (.int (4 : Int32))] (hb hby own_d_jdk_52_method_5_code_31) rfl rfl ?_
  refine own_aloadN X1 hx (hb hby own_d_jdk_52_method_5_code_32) rfl rfl rfl ?_
  refine own_iloadN X1 hx (hb hby own_d_jdk_52_method_5_code_33) rfl rfl ?_
  refine own_iinc X1 hx #[.val (.ref b1), .val (.int (5 : Int32))] (hb hby own_d_jdk_52_method_5_code_34) rfl rfl rfl ?_
  refine own_baloadBytes X1 hx hZ e1 V0 ⟨by decide, by decide⟩ rfl (hb hby own_d_jdk_52_method_5_code_37) rfl ?_
  refine own_sipush X1 hx (255 : Int32) (hb hby own_d_jdk_52_method_5_code_38) (by decide) rfl ?_
  refine own_iand X1 hx (hb hby own_d_jdk_52_method_5_code_41) rfl ?_
  refine own_getS X1 hx hZ hown (host := "") (Or.inl (hw _ (List.mem_of_getElem? (i := 74) rfl))) Via.refl e1 (SH.ext O0.2) (hb hby own_d_jdk_52_method_5_code_42) rfl ?_
  intro T2 X2 e2
  refine own_ishl X2 hx (hb hby own_d_jdk_52_method_5_code_45) rfl ?_
  refine own_aloadN X2 hx (hb hby own_d_jdk_52_method_5_code_46) rfl rfl rfl ?_
  refine own_iloadN X2 hx (hb hby own_d_jdk_52_method_5_code_47) rfl rfl ?_
  refine own_baloadBytes X2 hx hZ e2 V0 ⟨by decide, by decide⟩ rfl (hb hby own_d_jdk_52_method_5_code_48) rfl ?_
  refine own_sipush X2 hx (255 : Int32) (hb hby own_d_jdk_52_method_5_code_49) (by decide) rfl ?_
  refine own_iand X2 hx (hb hby own_d_jdk_52_method_5_code_52) rfl ?_
  refine own_getS X2 hx hZ hown (host := "") (Or.inl (hw _ (List.mem_of_getElem? (i := 75) rfl))) Via.refl e2 (SL.ext O0.2) (hb hby own_d_jdk_52_method_5_code_53) rfl ?_
  intro T3 X3 e3
  refine own_ishl X3 hx (hb hby own_d_jdk_52_method_5_code_56) rfl ?_
  refine own_ior X3 hx (hb hby own_d_jdk_52_method_5_code_57) rfl ?_
  refine own_i2c X3 hx (hb hby own_d_jdk_52_method_5_code_58) rfl ?_
  rw [show (((((StrChars.lo8 x2) &&& (255 : Int32)) <<< ((0 : Int32) &&& 31)) ||| (((StrChars.hi8 x2) &&& (255 : Int32)) <<< ((8 : Int32) &&& 31))).toUInt32.toUInt16.toUInt32.toInt32) = x2 from StrChars.pair_says hx2.1 hx2.2]
  exact own_retN X3 hx hlocks hret (by simp) (hb hby own_d_jdk_52_method_5_code_59) (by decide) (by decide) (own_narC2 hx2) ⟨rfl, N0, e3⟩
set_option maxRecDepth 65536 in
set_option maxHeartbeats 40000000 in
theorem own_put4_3 (l : Launch) (Z : State) (a0 : Array Value) (hw : ∀ d ∈ tables_1, d.before a0 Z = true) (b1 : Addr) (kb : ClassId) (ch y0 y1 y2 y3 y4 y5 y6 y7 : Int32) (h0 : Heap) (n0 : Nat) (O0 : Old Z n0 h0) (SA : Sta Z Z.heap "java/lang/StringUTF16" "$assertionsDisabled" "Z" (.int (1 : Int32))) (SH : Sta Z Z.heap "java/lang/StringUTF16" "HI_BYTE_SHIFT" "I" (.int (0 : Int32))) (SL : Sta Z Z.heap "java/lang/StringUTF16" "LO_BYTE_SHIFT" "I" (.int (8 : Int32))) (g_b1 : n0 ≤ b1) (V0 : Arv Z h0 b1 kb .byte (8 : Int32) [.int y0, .int y1, .int y2, .int y3, .int y4, .int y5, .int y6, .int y7] (.int (0 : Int32))) :
    own_Met l (⟨"java/lang/StringUTF16", "putChar", "([BII)V"⟩ : MethodName) jdk_52_method_4_code 3 none ({ frames := 0, cells := 0, slots := 0, locals := 0 } : Room) Z #[(.ref b1), (.int (3 : Int32)), (.int ch)] h0 (fun v h L => v = none ∧ Fr n0 L ∧ Keep h0 h [b1] ∧ Arv Z h b1 kb .byte (8 : Int32) [.int y0, .int y1, .int y2, .int y3, .int y4, .int y5, .int (StrChars.lo8 ch), .int (StrChars.hi8 ch)] (.int (0 : Int32))) := by
  refine own_met (plainFor_of_name own_pn_java_lang_StringUTF16) ?_
  intro p e s m below meth c T0 hx hby hml hZ hown hnm hret hlocks X0 e0 hh0
  have ef : entryFrame m #[(.ref b1), (.int (3 : Int32)), (.int ch)] 3 = mkF m 0 #[.val (.ref b1), .val (.int (3 : Int32)), .val (.int ch)] [] := by first | (simp [entryFrame, mkF, argsToLocals, Value.category]; done) | rfl
  refine own_entry ef ?_
  have N0 := Fr.nil n0
  have K0 := Keep.refl h0 [b1]
  have Z0 : n0 ≤ h0.size := O0.1 ▸ O0.2.1
  refine own_getS X0 hx hZ hown (host := "") (Or.inl (hw _ (List.mem_of_getElem? (i := 73) rfl))) Via.refl e0 (SA.ext O0.2) (hb hby own_d_jdk_52_method_4_code_0) rfl ?_
  intro T1 X1 e1
  refine own_ifT X1 hx (hb hby own_d_jdk_52_method_4_code_3) (by decide) rfl (by decide) ?_
  refine own_iloadN X1 hx (hb hby own_d_jdk_52_method_4_code_28) rfl rfl ?_
  refine own_iconst X1 hx (1 : Int32) (hb hby own_d_jdk_52_method_4_code_29) (by decide) rfl ?_
  refine own_ishl X1 hx (hb hby own_d_jdk_52_method_4_code_30) rfl ?_
  rw [show ((3 : Int32) <<< ((1 : Int32) &&& 31)) = (6 : Int32) from by decide]
  refine own_istoreN X1 hx #[.val (.ref b1), .val (.int (6 : Int32)), .val (.int ch)] (hb hby own_d_jdk_52_method_4_code_31) rfl rfl ?_
  refine own_aloadN X1 hx (hb hby own_d_jdk_52_method_4_code_32) rfl rfl rfl ?_
  refine own_iloadN X1 hx (hb hby own_d_jdk_52_method_4_code_33) rfl rfl ?_
  refine own_iinc X1 hx #[.val (.ref b1), .val (.int (7 : Int32)), .val (.int ch)] (hb hby own_d_jdk_52_method_4_code_34) rfl rfl rfl ?_
  refine own_iloadN X1 hx (hb hby own_d_jdk_52_method_4_code_37) rfl rfl ?_
  refine own_getS X1 hx hZ hown (host := "") (Or.inl (hw _ (List.mem_of_getElem? (i := 74) rfl))) Via.refl e1 (SH.ext O0.2) (hb hby own_d_jdk_52_method_4_code_38) rfl ?_
  intro T2 X2 e2
  refine own_ishr X2 hx (hb hby own_d_jdk_52_method_4_code_41) rfl ?_
  refine own_i2b X2 hx (hb hby own_d_jdk_52_method_4_code_42) rfl ?_
  rw [show ((ch >>> ((0 : Int32) &&& 31)).toInt8.toInt32) = (StrChars.lo8 ch) from own_lo0 ch]
  refine own_stB X2 hx hZ e2 V0 ⟨by decide, by decide⟩ 6 rfl (Nat.le_of_ble_eq_true rfl) (own_lo8L ch) N0 g_b1 (hb hby own_d_jdk_52_method_4_code_43) rfl ?_
  intro T3 h3 X3 e3 W3 N3 V3
  have K4 := K0.wr W3 (Or.inl (List.mem_of_getElem? (i := 0) rfl))
  refine own_aloadN X3 hx (hb hby own_d_jdk_52_method_4_code_44) rfl rfl rfl ?_
  refine own_iloadN X3 hx (hb hby own_d_jdk_52_method_4_code_45) rfl rfl ?_
  refine own_iloadN X3 hx (hb hby own_d_jdk_52_method_4_code_46) rfl rfl ?_
  have f5 := (O0.wr W3 g_b1)
  refine own_getS X3 hx hZ hown (host := "") (Or.inl (hw _ (List.mem_of_getElem? (i := 75) rfl))) Via.refl e3 (SL.ext f5.2) (hb hby own_d_jdk_52_method_4_code_47) rfl ?_
  intro T6 X6 e6
  refine own_ishr X6 hx (hb hby own_d_jdk_52_method_4_code_50) rfl ?_
  refine own_i2b X6 hx (hb hby own_d_jdk_52_method_4_code_51) rfl ?_
  rw [show ((ch >>> ((8 : Int32) &&& 31)).toInt8.toInt32) = (StrChars.hi8 ch) from rfl]
  refine own_stB X6 hx hZ e6 V3 ⟨by decide, by decide⟩ 7 rfl (Nat.le_of_ble_eq_true rfl) (own_lo8H ch) N3 g_b1 (hb hby own_d_jdk_52_method_4_code_52) rfl ?_
  intro T7 h7 X7 e7 W7 N7 V7
  have K8 := K4.wr W7 (Or.inl (List.mem_of_getElem? (i := 0) rfl))
  exact own_ret X7 hx hlocks hret (hb hby own_d_jdk_52_method_4_code_53) (by decide) (by decide) ⟨rfl, N7, by rw [e7]; exact ⟨K8, V7⟩⟩
set_option maxRecDepth 65536 in
set_option maxHeartbeats 40000000 in
theorem own_get4_3 (l : Launch) (Z : State) (a0 : Array Value) (hw : ∀ d ∈ tables_1, d.before a0 Z = true) (b1 : Addr) (kb : ClassId) (x0 x1 x2 x3 : Int32) (h0 : Heap) (n0 : Nat) (O0 : Old Z n0 h0) (SA : Sta Z Z.heap "java/lang/StringUTF16" "$assertionsDisabled" "Z" (.int (1 : Int32))) (SH : Sta Z Z.heap "java/lang/StringUTF16" "HI_BYTE_SHIFT" "I" (.int (0 : Int32))) (SL : Sta Z Z.heap "java/lang/StringUTF16" "LO_BYTE_SHIFT" "I" (.int (8 : Int32))) (hx0 : ¬ x0 < 0 ∧ ¬ (65535 : Int32) < x0) (hx1 : ¬ x1 < 0 ∧ ¬ (65535 : Int32) < x1) (hx2 : ¬ x2 < 0 ∧ ¬ (65535 : Int32) < x2) (hx3 : ¬ x3 < 0 ∧ ¬ (65535 : Int32) < x3) (V0 : Arv Z h0 b1 kb .byte (8 : Int32) [.int (StrChars.lo8 x0), .int (StrChars.hi8 x0), .int (StrChars.lo8 x1), .int (StrChars.hi8 x1), .int (StrChars.lo8 x2), .int (StrChars.hi8 x2), .int (StrChars.lo8 x3), .int (StrChars.hi8 x3)] (.int (0 : Int32))) :
    own_Met l (⟨"java/lang/StringUTF16", "getChar", "([BI)C"⟩ : MethodName) jdk_52_method_5_code 2 (some .char) ({ frames := 0, cells := 0, slots := 0, locals := 0 } : Room) Z #[(.ref b1), (.int (3 : Int32))] h0 (fun v h L => v = some (.int x3) ∧ Fr n0 L ∧ h = h0) := by
  refine own_met (plainFor_of_name own_pn_java_lang_StringUTF16) ?_
  intro p e s m below meth c T0 hx hby hml hZ hown hnm hret hlocks X0 e0 hh0
  have ef : entryFrame m #[(.ref b1), (.int (3 : Int32))] 2 = mkF m 0 #[.val (.ref b1), .val (.int (3 : Int32))] [] := by first | (simp [entryFrame, mkF, argsToLocals, Value.category]; done) | rfl
  refine own_entry ef ?_
  have N0 := Fr.nil n0
  have K0 := Keep.refl h0 []
  have Z0 : n0 ≤ h0.size := O0.1 ▸ O0.2.1
  refine own_getS X0 hx hZ hown (host := "") (Or.inl (hw _ (List.mem_of_getElem? (i := 73) rfl))) Via.refl e0 (SA.ext O0.2) (hb hby own_d_jdk_52_method_5_code_0) rfl ?_
  intro T1 X1 e1
  refine own_ifT X1 hx (hb hby own_d_jdk_52_method_5_code_3) (by decide) rfl (by decide) ?_
  refine own_iloadN X1 hx (hb hby own_d_jdk_52_method_5_code_28) rfl rfl ?_
  refine own_iconst X1 hx (1 : Int32) (hb hby own_d_jdk_52_method_5_code_29) (by decide) rfl ?_
  refine own_ishl X1 hx (hb hby own_d_jdk_52_method_5_code_30) rfl ?_
  rw [show ((3 : Int32) <<< ((1 : Int32) &&& 31)) = (6 : Int32) from by decide]
  refine own_istoreN X1 hx #[.val (.ref b1), .val (.int (6 : Int32))] (hb hby own_d_jdk_52_method_5_code_31) rfl rfl ?_
  refine own_aloadN X1 hx (hb hby own_d_jdk_52_method_5_code_32) rfl rfl rfl ?_
  refine own_iloadN X1 hx (hb hby own_d_jdk_52_method_5_code_33) rfl rfl ?_
  refine own_iinc X1 hx #[.val (.ref b1), .val (.int (7 : Int32))] (hb hby own_d_jdk_52_method_5_code_34) rfl rfl rfl ?_
  refine own_baloadBytes X1 hx hZ e1 V0 ⟨by decide, by decide⟩ rfl (hb hby own_d_jdk_52_method_5_code_37) rfl ?_
  refine own_sipush X1 hx (255 : Int32) (hb hby own_d_jdk_52_method_5_code_38) (by decide) rfl ?_
  refine own_iand X1 hx (hb hby own_d_jdk_52_method_5_code_41) rfl ?_
  refine own_getS X1 hx hZ hown (host := "") (Or.inl (hw _ (List.mem_of_getElem? (i := 74) rfl))) Via.refl e1 (SH.ext O0.2) (hb hby own_d_jdk_52_method_5_code_42) rfl ?_
  intro T2 X2 e2
  refine own_ishl X2 hx (hb hby own_d_jdk_52_method_5_code_45) rfl ?_
  refine own_aloadN X2 hx (hb hby own_d_jdk_52_method_5_code_46) rfl rfl rfl ?_
  refine own_iloadN X2 hx (hb hby own_d_jdk_52_method_5_code_47) rfl rfl ?_
  refine own_baloadBytes X2 hx hZ e2 V0 ⟨by decide, by decide⟩ rfl (hb hby own_d_jdk_52_method_5_code_48) rfl ?_
  refine own_sipush X2 hx (255 : Int32) (hb hby own_d_jdk_52_method_5_code_49) (by decide) rfl ?_
  refine own_iand X2 hx (hb hby own_d_jdk_52_method_5_code_52) rfl ?_
  refine own_getS X2 hx hZ hown (host := "") (Or.inl (hw _ (List.mem_of_getElem? (i := 75) rfl))) Via.refl e2 (SL.ext O0.2) (hb hby own_d_jdk_52_method_5_code_53) rfl ?_
  intro T3 X3 e3
  refine own_ishl X3 hx (hb hby own_d_jdk_52_method_5_code_56) rfl ?_
  refine own_ior X3 hx (hb hby own_d_jdk_52_method_5_code_57) rfl ?_
  refine own_i2c X3 hx (hb hby own_d_jdk_52_method_5_code_58) rfl ?_
  rw [show (((((StrChars.lo8 x3) &&& (255 : Int32)) <<< ((0 : Int32) &&& 31)) ||| (((StrChars.hi8 x3) &&& (255 : Int32)) <<< ((8 : Int32) &&& 31))).toUInt32.toUInt16.toUInt32.toInt32) = x3 from StrChars.pair_says hx3.1 hx3.2]
  exact own_retN X3 hx hlocks hret (by simp) (hb hby own_d_jdk_52_method_5_code_59) (by decide) (by decide) (own_narC2 hx3) ⟨rfl, N0, e3⟩
set_option maxRecDepth 65536 in
set_option maxHeartbeats 40000000 in
theorem own_tob4 (l : Launch) (Z : State) (a0 : Array Value) (hw : ∀ d ∈ tables_1, d.before a0 Z = true) (c1 : Addr) (kc : ClassId) (x0 x1 x2 x3 : Int32) (h0 : Heap) (n0 : Nat) (O0 : Old Z n0 h0) (SA : Sta Z Z.heap "java/lang/StringUTF16" "$assertionsDisabled" "Z" (.int (1 : Int32))) (SH : Sta Z Z.heap "java/lang/StringUTF16" "HI_BYTE_SHIFT" "I" (.int (0 : Int32))) (SL : Sta Z Z.heap "java/lang/StringUTF16" "LO_BYTE_SHIFT" "I" (.int (8 : Int32))) (VC : Arv Z h0 c1 kc .char (4 : Int32) [.int x0, .int x1, .int x2, .int x3] (.int (0 : Int32))) :
    own_Met l (⟨"java/lang/StringUTF16", "toBytes", "([CII)[B"⟩ : MethodName) jdk_52_method_14_code 5 (some (.array .byte)) ({ frames := 2, cells := 1, slots := 8, locals := 24 } : Room) Z #[(.ref c1), (.int (0 : Int32)), (.int (4 : Int32))] h0 (fun v h L => ∃ (b : Addr) (k : ClassId), v = some (.ref b) ∧ Fr n0 L ∧ Keep h0 h [] ∧ n0 ≤ b ∧ h0.size ≤ b ∧ Arv Z h b k .byte (8 : Int32) [.int (StrChars.lo8 x0), .int (StrChars.hi8 x0), .int (StrChars.lo8 x1), .int (StrChars.hi8 x1), .int (StrChars.lo8 x2), .int (StrChars.hi8 x2), .int (StrChars.lo8 x3), .int (StrChars.hi8 x3)] (.int (0 : Int32))) := by
  refine own_met (plainFor_of_name own_pn_java_lang_StringUTF16) ?_
  intro p e s m below meth c T0 hx hby hml hZ hown hnm hret hlocks X0 e0 hh0
  have ef : entryFrame m #[(.ref c1), (.int (0 : Int32)), (.int (4 : Int32))] 5 = mkF m 0 #[.val (.ref c1), .val (.int (0 : Int32)), .val (.int (4 : Int32)), .unset, .unset] [] := by first | (simp [entryFrame, mkF, argsToLocals, Value.category]; done) | rfl
  refine own_entry ef ?_
  have N0 := Fr.nil n0
  have K0 := Keep.refl h0 []
  have Z0 : n0 ≤ h0.size := O0.1 ▸ O0.2.1
  refine own_iloadN X0 hx (hb hby own_d_jdk_52_method_14_code_0) rfl rfl ?_
  refine own_static X0 hx hZ (y := (⟨"java/lang/StringUTF16", "newBytesFor", "(I)[B"⟩ : MethodName)) hown (hw _ (List.mem_of_getElem? (i := 63) rfl)) (hw _ (List.mem_of_getElem? (i := 64) rfl)) (hw _ (List.mem_of_getElem? (i := 52) rfl)) (hw _ (List.mem_of_getElem? (i := 65) rfl)) (by decide) e0 (by decide) (W := 0) (by decide) (by decide) (by decide) [(.int (4 : Int32))] [] (by rw [hml]; rfl) (own_nbf4 l Z a0 hw h0 n0 O0) own_pd1 rfl rfl rfl (hb hby own_d_jdk_52_method_14_code_1) rfl ?_
  intro v1 T1 L1 X1 hQ1
  obtain ⟨b1, k1, rfl, Nq1, Kq1, g_b1, sz_b1, V1⟩ := hQ1
  have sz_b1 := Nat.le_trans K0.1 sz_b1
  have N1 := Fr.app N0 Nq1
  have K2 := K0.trans Kq1 all0
  have f3 := (VC.keep Kq1 nin0)
  show own_Ends p e below _ (T1.setTop (mkF m 4 #[.val (.ref c1), .val (.int (0 : Int32)), .val (.int (4 : Int32)), .unset, .unset] [(.ref b1)]))
  refine own_astoreN X1 hx #[.val (.ref c1), .val (.int (0 : Int32)), .val (.int (4 : Int32)), .val (.ref b1), .unset] (hb hby own_d_jdk_52_method_14_code_4) rfl rfl rfl ?_
  refine own_iconst X1 hx (0 : Int32) (hb hby own_d_jdk_52_method_14_code_5) (by decide) rfl ?_
  refine own_istore X1 hx #[.val (.ref c1), .val (.int (0 : Int32)), .val (.int (4 : Int32)), .val (.ref b1), .val (.int (0 : Int32))] (hb hby own_d_jdk_52_method_14_code_6) rfl rfl ?_
  refine own_iload X1 hx (hb hby own_d_jdk_52_method_14_code_8) rfl rfl ?_
  refine own_iloadN X1 hx (hb hby own_d_jdk_52_method_14_code_10) rfl rfl ?_
  refine own_icmpF X1 hx (hb hby own_d_jdk_52_method_14_code_11) rfl (by decide) ?_
  refine own_aloadN X1 hx (hb hby own_d_jdk_52_method_14_code_14) rfl rfl rfl ?_
  refine own_iload X1 hx (hb hby own_d_jdk_52_method_14_code_15) rfl rfl ?_
  refine own_aloadN X1 hx (hb hby own_d_jdk_52_method_14_code_17) rfl rfl rfl ?_
  refine own_iloadN X1 hx (hb hby own_d_jdk_52_method_14_code_18) rfl rfl ?_
  refine own_caload X1 hx hZ rfl f3 ⟨by decide, by decide⟩ rfl (hb hby own_d_jdk_52_method_14_code_19) rfl ?_
  have f4 := (O0.keep Kq1 all0)
  refine own_static X1 hx hZ (y := (⟨"java/lang/StringUTF16", "putChar", "([BII)V"⟩ : MethodName)) hown (hw _ (List.mem_of_getElem? (i := 70) rfl)) (hw _ (List.mem_of_getElem? (i := 71) rfl)) (hw _ (List.mem_of_getElem? (i := 52) rfl)) (hw _ (List.mem_of_getElem? (i := 72) rfl)) (by decide) rfl (by decide) (W := 0) (by decide) (by decide) (by decide) [(.ref b1), (.int (0 : Int32)), (.int x0)] [] (by rw [hml]; rfl) (own_put4_0 l Z a0 hw b1 _ x0 (0 : Int32) (0 : Int32) (0 : Int32) (0 : Int32) (0 : Int32) (0 : Int32) (0 : Int32) (0 : Int32) T1.heap n0 f4 SA SH SL g_b1 V1) own_pd2 rfl rfl rfl (hb hby own_d_jdk_52_method_14_code_20) rfl ?_
  intro v5 T5 L5 X5 hQ5
  obtain ⟨rfl, Nq5, Kq5, V5⟩ := hQ5
  have N5 := Fr.app N1 Nq5
  have K6 := K2.trans Kq5 (allS (Or.inr sz_b1) all0)
  show own_Ends p e below _ (T5.setTop (mkF m 23 #[.val (.ref c1), .val (.int (0 : Int32)), .val (.int (4 : Int32)), .val (.ref b1), .val (.int (0 : Int32))] []))
  refine own_iinc X5 hx #[.val (.ref c1), .val (.int (1 : Int32)), .val (.int (4 : Int32)), .val (.ref b1), .val (.int (0 : Int32))] (hb hby own_d_jdk_52_method_14_code_23) rfl rfl rfl ?_
  refine own_iinc X5 hx #[.val (.ref c1), .val (.int (1 : Int32)), .val (.int (4 : Int32)), .val (.ref b1), .val (.int (1 : Int32))] (hb hby own_d_jdk_52_method_14_code_26) rfl rfl rfl ?_
  refine own_goto X5 hx (hb hby own_d_jdk_52_method_14_code_29) (by decide) rfl ?_
  refine own_iload X5 hx (hb hby own_d_jdk_52_method_14_code_8) rfl rfl ?_
  refine own_iloadN X5 hx (hb hby own_d_jdk_52_method_14_code_10) rfl rfl ?_
  refine own_icmpF X5 hx (hb hby own_d_jdk_52_method_14_code_11) rfl (by decide) ?_
  refine own_aloadN X5 hx (hb hby own_d_jdk_52_method_14_code_14) rfl rfl rfl ?_
  refine own_iload X5 hx (hb hby own_d_jdk_52_method_14_code_15) rfl rfl ?_
  refine own_aloadN X5 hx (hb hby own_d_jdk_52_method_14_code_17) rfl rfl rfl ?_
  refine own_iloadN X5 hx (hb hby own_d_jdk_52_method_14_code_18) rfl rfl ?_
  have f7 := (f3.keep Kq5 (ninS (own_neV f3 V1 (by decide)) nin0))
  refine own_caload X5 hx hZ rfl f7 ⟨by decide, by decide⟩ rfl (hb hby own_d_jdk_52_method_14_code_19) rfl ?_
  have f8 := (f4.keep Kq5 (allS g_b1 all0))
  refine own_static X5 hx hZ (y := (⟨"java/lang/StringUTF16", "putChar", "([BII)V"⟩ : MethodName)) hown (hw _ (List.mem_of_getElem? (i := 70) rfl)) (hw _ (List.mem_of_getElem? (i := 71) rfl)) (hw _ (List.mem_of_getElem? (i := 52) rfl)) (hw _ (List.mem_of_getElem? (i := 72) rfl)) (by decide) rfl (by decide) (W := 0) (by decide) (by decide) (by decide) [(.ref b1), (.int (1 : Int32)), (.int x1)] [] (by rw [hml]; rfl) (own_put4_1 l Z a0 hw b1 _ x1 (StrChars.lo8 x0) (StrChars.hi8 x0) (0 : Int32) (0 : Int32) (0 : Int32) (0 : Int32) (0 : Int32) (0 : Int32) T5.heap n0 f8 SA SH SL g_b1 V5) own_pd2 rfl rfl rfl (hb hby own_d_jdk_52_method_14_code_20) rfl ?_
  intro v9 T9 L9 X9 hQ9
  obtain ⟨rfl, Nq9, Kq9, V9⟩ := hQ9
  have N9 := Fr.app N5 Nq9
  have K10 := K6.trans Kq9 (allS (Or.inr sz_b1) all0)
  show own_Ends p e below _ (T9.setTop (mkF m 23 #[.val (.ref c1), .val (.int (1 : Int32)), .val (.int (4 : Int32)), .val (.ref b1), .val (.int (1 : Int32))] []))
  refine own_iinc X9 hx #[.val (.ref c1), .val (.int (2 : Int32)), .val (.int (4 : Int32)), .val (.ref b1), .val (.int (1 : Int32))] (hb hby own_d_jdk_52_method_14_code_23) rfl rfl rfl ?_
  refine own_iinc X9 hx #[.val (.ref c1), .val (.int (2 : Int32)), .val (.int (4 : Int32)), .val (.ref b1), .val (.int (2 : Int32))] (hb hby own_d_jdk_52_method_14_code_26) rfl rfl rfl ?_
  refine own_goto X9 hx (hb hby own_d_jdk_52_method_14_code_29) (by decide) rfl ?_
  refine own_iload X9 hx (hb hby own_d_jdk_52_method_14_code_8) rfl rfl ?_
  refine own_iloadN X9 hx (hb hby own_d_jdk_52_method_14_code_10) rfl rfl ?_
  refine own_icmpF X9 hx (hb hby own_d_jdk_52_method_14_code_11) rfl (by decide) ?_
  refine own_aloadN X9 hx (hb hby own_d_jdk_52_method_14_code_14) rfl rfl rfl ?_
  refine own_iload X9 hx (hb hby own_d_jdk_52_method_14_code_15) rfl rfl ?_
  refine own_aloadN X9 hx (hb hby own_d_jdk_52_method_14_code_17) rfl rfl rfl ?_
  refine own_iloadN X9 hx (hb hby own_d_jdk_52_method_14_code_18) rfl rfl ?_
  have f11 := (f7.keep Kq9 (ninS (own_neV f3 V1 (by decide)) nin0))
  refine own_caload X9 hx hZ rfl f11 ⟨by decide, by decide⟩ rfl (hb hby own_d_jdk_52_method_14_code_19) rfl ?_
  have f12 := (f8.keep Kq9 (allS g_b1 all0))
  refine own_static X9 hx hZ (y := (⟨"java/lang/StringUTF16", "putChar", "([BII)V"⟩ : MethodName)) hown (hw _ (List.mem_of_getElem? (i := 70) rfl)) (hw _ (List.mem_of_getElem? (i := 71) rfl)) (hw _ (List.mem_of_getElem? (i := 52) rfl)) (hw _ (List.mem_of_getElem? (i := 72) rfl)) (by decide) rfl (by decide) (W := 0) (by decide) (by decide) (by decide) [(.ref b1), (.int (2 : Int32)), (.int x2)] [] (by rw [hml]; rfl) (own_put4_2 l Z a0 hw b1 _ x2 (StrChars.lo8 x0) (StrChars.hi8 x0) (StrChars.lo8 x1) (StrChars.hi8 x1) (0 : Int32) (0 : Int32) (0 : Int32) (0 : Int32) T9.heap n0 f12 SA SH SL g_b1 V9) own_pd2 rfl rfl rfl (hb hby own_d_jdk_52_method_14_code_20) rfl ?_
  intro v13 T13 L13 X13 hQ13
  obtain ⟨rfl, Nq13, Kq13, V13⟩ := hQ13
  have N13 := Fr.app N9 Nq13
  have K14 := K10.trans Kq13 (allS (Or.inr sz_b1) all0)
  show own_Ends p e below _ (T13.setTop (mkF m 23 #[.val (.ref c1), .val (.int (2 : Int32)), .val (.int (4 : Int32)), .val (.ref b1), .val (.int (2 : Int32))] []))
  refine own_iinc X13 hx #[.val (.ref c1), .val (.int (3 : Int32)), .val (.int (4 : Int32)), .val (.ref b1), .val (.int (2 : Int32))] (hb hby own_d_jdk_52_method_14_code_23) rfl rfl rfl ?_
  refine own_iinc X13 hx #[.val (.ref c1), .val (.int (3 : Int32)), .val (.int (4 : Int32)), .val (.ref b1), .val (.int (3 : Int32))] (hb hby own_d_jdk_52_method_14_code_26) rfl rfl rfl ?_
  refine own_goto X13 hx (hb hby own_d_jdk_52_method_14_code_29) (by decide) rfl ?_
  refine own_iload X13 hx (hb hby own_d_jdk_52_method_14_code_8) rfl rfl ?_
  refine own_iloadN X13 hx (hb hby own_d_jdk_52_method_14_code_10) rfl rfl ?_
  refine own_icmpF X13 hx (hb hby own_d_jdk_52_method_14_code_11) rfl (by decide) ?_
  refine own_aloadN X13 hx (hb hby own_d_jdk_52_method_14_code_14) rfl rfl rfl ?_
  refine own_iload X13 hx (hb hby own_d_jdk_52_method_14_code_15) rfl rfl ?_
  refine own_aloadN X13 hx (hb hby own_d_jdk_52_method_14_code_17) rfl rfl rfl ?_
  refine own_iloadN X13 hx (hb hby own_d_jdk_52_method_14_code_18) rfl rfl ?_
  have f15 := (f11.keep Kq13 (ninS (own_neV f3 V1 (by decide)) nin0))
  refine own_caload X13 hx hZ rfl f15 ⟨by decide, by decide⟩ rfl (hb hby own_d_jdk_52_method_14_code_19) rfl ?_
  have f16 := (f12.keep Kq13 (allS g_b1 all0))
  refine own_static X13 hx hZ (y := (⟨"java/lang/StringUTF16", "putChar", "([BII)V"⟩ : MethodName)) hown (hw _ (List.mem_of_getElem? (i := 70) rfl)) (hw _ (List.mem_of_getElem? (i := 71) rfl)) (hw _ (List.mem_of_getElem? (i := 52) rfl)) (hw _ (List.mem_of_getElem? (i := 72) rfl)) (by decide) rfl (by decide) (W := 0) (by decide) (by decide) (by decide) [(.ref b1), (.int (3 : Int32)), (.int x3)] [] (by rw [hml]; rfl) (own_put4_3 l Z a0 hw b1 _ x3 (StrChars.lo8 x0) (StrChars.hi8 x0) (StrChars.lo8 x1) (StrChars.hi8 x1) (StrChars.lo8 x2) (StrChars.hi8 x2) (0 : Int32) (0 : Int32) T13.heap n0 f16 SA SH SL g_b1 V13) own_pd2 rfl rfl rfl (hb hby own_d_jdk_52_method_14_code_20) rfl ?_
  intro v17 T17 L17 X17 hQ17
  obtain ⟨rfl, Nq17, Kq17, V17⟩ := hQ17
  have N17 := Fr.app N13 Nq17
  have K18 := K14.trans Kq17 (allS (Or.inr sz_b1) all0)
  show own_Ends p e below _ (T17.setTop (mkF m 23 #[.val (.ref c1), .val (.int (3 : Int32)), .val (.int (4 : Int32)), .val (.ref b1), .val (.int (3 : Int32))] []))
  refine own_iinc X17 hx #[.val (.ref c1), .val (.int (4 : Int32)), .val (.int (4 : Int32)), .val (.ref b1), .val (.int (3 : Int32))] (hb hby own_d_jdk_52_method_14_code_23) rfl rfl rfl ?_
  refine own_iinc X17 hx #[.val (.ref c1), .val (.int (4 : Int32)), .val (.int (4 : Int32)), .val (.ref b1), .val (.int (4 : Int32))] (hb hby own_d_jdk_52_method_14_code_26) rfl rfl rfl ?_
  refine own_goto X17 hx (hb hby own_d_jdk_52_method_14_code_29) (by decide) rfl ?_
  refine own_iload X17 hx (hb hby own_d_jdk_52_method_14_code_8) rfl rfl ?_
  refine own_iloadN X17 hx (hb hby own_d_jdk_52_method_14_code_10) rfl rfl ?_
  refine own_icmpT X17 hx (hb hby own_d_jdk_52_method_14_code_11) (by decide) rfl (by decide) ?_
  refine own_aloadN X17 hx (hb hby own_d_jdk_52_method_14_code_32) rfl rfl rfl ?_
  exact own_retA X17 hx hlocks hret rfl rfl (hb hby own_d_jdk_52_method_14_code_33) (by decide) (by decide) ⟨b1, _, rfl, N17, by exact ⟨K18, g_b1, sz_b1, V17⟩⟩
set_option maxRecDepth 65536 in
set_option maxHeartbeats 40000000 in
theorem own_cmpi4 (l : Launch) (Z : State) (a0 : Array Value) (hw : ∀ d ∈ tables_1, d.before a0 Z = true) (c1 : Addr) (kc : ClassId) (x0 x1 x2 x3 : Int32) (b1 : Addr) (kb : ClassId) (h0 : Heap) (n0 : Nat) (O0 : Old Z n0 h0) (VC : Arv Z h0 c1 kc .char (4 : Int32) [.int x0, .int x1, .int x2, .int x3] (.int (0 : Int32))) (g_b1 : n0 ≤ b1) (VB : Arv Z h0 b1 kb .byte (4 : Int32) [.int (0 : Int32), .int (0 : Int32), .int (0 : Int32), .int (0 : Int32)] (.int (0 : Int32))) (HB : (255 : Int32) < x0 ∨ (255 : Int32) < x1 ∨ (255 : Int32) < x2 ∨ (255 : Int32) < x3) :
    own_Met l (⟨"java/lang/StringUTF16", "compress", "([CI[BII)I"⟩ : MethodName) jdk_52_method_21_code 7 (some .int) ({ frames := 0, cells := 0, slots := 0, locals := 0 } : Room) Z #[(.ref c1), (.int (0 : Int32)), (.ref b1), (.int (0 : Int32)), (.int (4 : Int32))] h0 (fun v h L => ∃ i : Int32, v = some (.int i) ∧ ((i = (0 : Int32) ∧ (255 : Int32) < x0) ∨ (i = (1 : Int32) ∧ (255 : Int32) < x1) ∨ (i = (2 : Int32) ∧ (255 : Int32) < x2) ∨ (i = (3 : Int32) ∧ (255 : Int32) < x3)) ∧ Fr n0 L ∧ Keep h0 h [b1]) := by
  refine own_met (plainFor_of_name own_pn_java_lang_StringUTF16) ?_
  intro p e s m below meth c T0 hx hby hml hZ hown hnm hret hlocks X0 e0 hh0
  have ef : entryFrame m #[(.ref c1), (.int (0 : Int32)), (.ref b1), (.int (0 : Int32)), (.int (4 : Int32))] 7 = mkF m 0 #[.val (.ref c1), .val (.int (0 : Int32)), .val (.ref b1), .val (.int (0 : Int32)), .val (.int (4 : Int32)), .unset, .unset] [] := by first | (simp [entryFrame, mkF, argsToLocals, Value.category]; done) | rfl
  refine own_entry ef ?_
  have N0 := Fr.nil n0
  have K0 := Keep.refl h0 [b1]
  have Z0 : n0 ≤ h0.size := O0.1 ▸ O0.2.1
  refine own_iconst X0 hx (0 : Int32) (hb hby own_d_jdk_52_method_21_code_0) (by decide) rfl ?_
  refine own_istore X0 hx #[.val (.ref c1), .val (.int (0 : Int32)), .val (.ref b1), .val (.int (0 : Int32)), .val (.int (4 : Int32)), .val (.int (0 : Int32)), .unset] (hb hby own_d_jdk_52_method_21_code_1) rfl rfl ?_
  refine own_iload X0 hx (hb hby own_d_jdk_52_method_21_code_3) rfl rfl ?_
  refine own_iload X0 hx (hb hby own_d_jdk_52_method_21_code_5) rfl rfl ?_
  refine own_icmpF X0 hx (hb hby own_d_jdk_52_method_21_code_7) rfl (by decide) ?_
  refine own_aloadN X0 hx (hb hby own_d_jdk_52_method_21_code_10) rfl rfl rfl ?_
  refine own_iloadN X0 hx (hb hby own_d_jdk_52_method_21_code_11) rfl rfl ?_
  refine own_caload X0 hx hZ e0 VC ⟨by decide, by decide⟩ rfl (hb hby own_d_jdk_52_method_21_code_12) rfl ?_
  refine own_istore X0 hx #[.val (.ref c1), .val (.int (0 : Int32)), .val (.ref b1), .val (.int (0 : Int32)), .val (.int (4 : Int32)), .val (.int (0 : Int32)), .val (.int x0)] (hb hby own_d_jdk_52_method_21_code_13) rfl rfl ?_
  refine own_iload X0 hx (hb hby own_d_jdk_52_method_21_code_15) rfl rfl ?_
  refine own_sipush X0 hx (255 : Int32) (hb hby own_d_jdk_52_method_21_code_17) (by decide) rfl ?_
  refine own_icmp_le X0 hx (hb hby own_d_jdk_52_method_21_code_20) (by decide) rfl rfl (fun hc20_1 => ?_) (fun hc20_1 => ?_)
  · refine own_aloadN X0 hx (hb hby own_d_jdk_52_method_21_code_26) rfl rfl rfl ?_
    refine own_iloadN X0 hx (hb hby own_d_jdk_52_method_21_code_27) rfl rfl ?_
    refine own_iload X0 hx (hb hby own_d_jdk_52_method_21_code_28) rfl rfl ?_
    refine own_i2b X0 hx (hb hby own_d_jdk_52_method_21_code_30) rfl ?_
    refine own_stB X0 hx hZ e0 VB ⟨by decide, by decide⟩ 0 rfl (Nat.le_of_ble_eq_true rfl) (own_lo8 x0) N0 g_b1 (hb hby own_d_jdk_52_method_21_code_31) rfl ?_
    intro T2 h2 X2 e2 W2 N2 V2
    have K3 := K0.wr W2 (Or.inl (List.mem_of_getElem? (i := 0) rfl))
    refine own_iinc X2 hx #[.val (.ref c1), .val (.int (1 : Int32)), .val (.ref b1), .val (.int (0 : Int32)), .val (.int (4 : Int32)), .val (.int (0 : Int32)), .val (.int x0)] (hb hby own_d_jdk_52_method_21_code_32) rfl rfl rfl ?_
    refine own_iinc X2 hx #[.val (.ref c1), .val (.int (1 : Int32)), .val (.ref b1), .val (.int (1 : Int32)), .val (.int (4 : Int32)), .val (.int (0 : Int32)), .val (.int x0)] (hb hby own_d_jdk_52_method_21_code_35) rfl rfl rfl ?_
    refine own_iinc X2 hx #[.val (.ref c1), .val (.int (1 : Int32)), .val (.ref b1), .val (.int (1 : Int32)), .val (.int (4 : Int32)), .val (.int (1 : Int32)), .val (.int x0)] (hb hby own_d_jdk_52_method_21_code_38) rfl rfl rfl ?_
    refine own_goto X2 hx (hb hby own_d_jdk_52_method_21_code_41) (by decide) rfl ?_
    refine own_iload X2 hx (hb hby own_d_jdk_52_method_21_code_3) rfl rfl ?_
    refine own_iload X2 hx (hb hby own_d_jdk_52_method_21_code_5) rfl rfl ?_
    refine own_icmpF X2 hx (hb hby own_d_jdk_52_method_21_code_7) rfl (by decide) ?_
    refine own_aloadN X2 hx (hb hby own_d_jdk_52_method_21_code_10) rfl rfl rfl ?_
    refine own_iloadN X2 hx (hb hby own_d_jdk_52_method_21_code_11) rfl rfl ?_
    have f4 := (VC.other W2 (own_neV VC VB (by decide)))
    refine own_caload X2 hx hZ e2 f4 ⟨by decide, by decide⟩ rfl (hb hby own_d_jdk_52_method_21_code_12) rfl ?_
    refine own_istore X2 hx #[.val (.ref c1), .val (.int (1 : Int32)), .val (.ref b1), .val (.int (1 : Int32)), .val (.int (4 : Int32)), .val (.int (1 : Int32)), .val (.int x1)] (hb hby own_d_jdk_52_method_21_code_13) rfl rfl ?_
    refine own_iload X2 hx (hb hby own_d_jdk_52_method_21_code_15) rfl rfl ?_
    refine own_sipush X2 hx (255 : Int32) (hb hby own_d_jdk_52_method_21_code_17) (by decide) rfl ?_
    refine own_icmp_le X2 hx (hb hby own_d_jdk_52_method_21_code_20) (by decide) rfl rfl (fun hc20_5 => ?_) (fun hc20_5 => ?_)
    · refine own_aloadN X2 hx (hb hby own_d_jdk_52_method_21_code_26) rfl rfl rfl ?_
      refine own_iloadN X2 hx (hb hby own_d_jdk_52_method_21_code_27) rfl rfl ?_
      refine own_iload X2 hx (hb hby own_d_jdk_52_method_21_code_28) rfl rfl ?_
      refine own_i2b X2 hx (hb hby own_d_jdk_52_method_21_code_30) rfl ?_
      refine own_stB X2 hx hZ e2 V2 ⟨by decide, by decide⟩ 1 rfl (Nat.le_of_ble_eq_true rfl) (own_lo8 x1) N2 g_b1 (hb hby own_d_jdk_52_method_21_code_31) rfl ?_
      intro T6 h6 X6 e6 W6 N6 V6
      have K7 := K3.wr W6 (Or.inl (List.mem_of_getElem? (i := 0) rfl))
      refine own_iinc X6 hx #[.val (.ref c1), .val (.int (2 : Int32)), .val (.ref b1), .val (.int (1 : Int32)), .val (.int (4 : Int32)), .val (.int (1 : Int32)), .val (.int x1)] (hb hby own_d_jdk_52_method_21_code_32) rfl rfl rfl ?_
      refine own_iinc X6 hx #[.val (.ref c1), .val (.int (2 : Int32)), .val (.ref b1), .val (.int (2 : Int32)), .val (.int (4 : Int32)), .val (.int (1 : Int32)), .val (.int x1)] (hb hby own_d_jdk_52_method_21_code_35) rfl rfl rfl ?_
      refine own_iinc X6 hx #[.val (.ref c1), .val (.int (2 : Int32)), .val (.ref b1), .val (.int (2 : Int32)), .val (.int (4 : Int32)), .val (.int (2 : Int32)), .val (.int x1)] (hb hby own_d_jdk_52_method_21_code_38) rfl rfl rfl ?_
      refine own_goto X6 hx (hb hby own_d_jdk_52_method_21_code_41) (by decide) rfl ?_
      refine own_iload X6 hx (hb hby own_d_jdk_52_method_21_code_3) rfl rfl ?_
      refine own_iload X6 hx (hb hby own_d_jdk_52_method_21_code_5) rfl rfl ?_
      refine own_icmpF X6 hx (hb hby own_d_jdk_52_method_21_code_7) rfl (by decide) ?_
      refine own_aloadN X6 hx (hb hby own_d_jdk_52_method_21_code_10) rfl rfl rfl ?_
      refine own_iloadN X6 hx (hb hby own_d_jdk_52_method_21_code_11) rfl rfl ?_
      have f8 := (f4.other W6 (own_neV VC VB (by decide)))
      refine own_caload X6 hx hZ e6 f8 ⟨by decide, by decide⟩ rfl (hb hby own_d_jdk_52_method_21_code_12) rfl ?_
      refine own_istore X6 hx #[.val (.ref c1), .val (.int (2 : Int32)), .val (.ref b1), .val (.int (2 : Int32)), .val (.int (4 : Int32)), .val (.int (2 : Int32)), .val (.int x2)] (hb hby own_d_jdk_52_method_21_code_13) rfl rfl ?_
      refine own_iload X6 hx (hb hby own_d_jdk_52_method_21_code_15) rfl rfl ?_
      refine own_sipush X6 hx (255 : Int32) (hb hby own_d_jdk_52_method_21_code_17) (by decide) rfl ?_
      refine own_icmp_le X6 hx (hb hby own_d_jdk_52_method_21_code_20) (by decide) rfl rfl (fun hc20_9 => ?_) (fun hc20_9 => ?_)
      · refine own_aloadN X6 hx (hb hby own_d_jdk_52_method_21_code_26) rfl rfl rfl ?_
        refine own_iloadN X6 hx (hb hby own_d_jdk_52_method_21_code_27) rfl rfl ?_
        refine own_iload X6 hx (hb hby own_d_jdk_52_method_21_code_28) rfl rfl ?_
        refine own_i2b X6 hx (hb hby own_d_jdk_52_method_21_code_30) rfl ?_
        refine own_stB X6 hx hZ e6 V6 ⟨by decide, by decide⟩ 2 rfl (Nat.le_of_ble_eq_true rfl) (own_lo8 x2) N6 g_b1 (hb hby own_d_jdk_52_method_21_code_31) rfl ?_
        intro T10 h10 X10 e10 W10 N10 V10
        have K11 := K7.wr W10 (Or.inl (List.mem_of_getElem? (i := 0) rfl))
        refine own_iinc X10 hx #[.val (.ref c1), .val (.int (3 : Int32)), .val (.ref b1), .val (.int (2 : Int32)), .val (.int (4 : Int32)), .val (.int (2 : Int32)), .val (.int x2)] (hb hby own_d_jdk_52_method_21_code_32) rfl rfl rfl ?_
        refine own_iinc X10 hx #[.val (.ref c1), .val (.int (3 : Int32)), .val (.ref b1), .val (.int (3 : Int32)), .val (.int (4 : Int32)), .val (.int (2 : Int32)), .val (.int x2)] (hb hby own_d_jdk_52_method_21_code_35) rfl rfl rfl ?_
        refine own_iinc X10 hx #[.val (.ref c1), .val (.int (3 : Int32)), .val (.ref b1), .val (.int (3 : Int32)), .val (.int (4 : Int32)), .val (.int (3 : Int32)), .val (.int x2)] (hb hby own_d_jdk_52_method_21_code_38) rfl rfl rfl ?_
        refine own_goto X10 hx (hb hby own_d_jdk_52_method_21_code_41) (by decide) rfl ?_
        refine own_iload X10 hx (hb hby own_d_jdk_52_method_21_code_3) rfl rfl ?_
        refine own_iload X10 hx (hb hby own_d_jdk_52_method_21_code_5) rfl rfl ?_
        refine own_icmpF X10 hx (hb hby own_d_jdk_52_method_21_code_7) rfl (by decide) ?_
        refine own_aloadN X10 hx (hb hby own_d_jdk_52_method_21_code_10) rfl rfl rfl ?_
        refine own_iloadN X10 hx (hb hby own_d_jdk_52_method_21_code_11) rfl rfl ?_
        have f12 := (f8.other W10 (own_neV VC VB (by decide)))
        refine own_caload X10 hx hZ e10 f12 ⟨by decide, by decide⟩ rfl (hb hby own_d_jdk_52_method_21_code_12) rfl ?_
        refine own_istore X10 hx #[.val (.ref c1), .val (.int (3 : Int32)), .val (.ref b1), .val (.int (3 : Int32)), .val (.int (4 : Int32)), .val (.int (3 : Int32)), .val (.int x3)] (hb hby own_d_jdk_52_method_21_code_13) rfl rfl ?_
        refine own_iload X10 hx (hb hby own_d_jdk_52_method_21_code_15) rfl rfl ?_
        refine own_sipush X10 hx (255 : Int32) (hb hby own_d_jdk_52_method_21_code_17) (by decide) rfl ?_
        refine own_icmp_le X10 hx (hb hby own_d_jdk_52_method_21_code_20) (by decide) rfl rfl (fun hc20_13 => ?_) (fun hc20_13 => ?_)
        · refine own_aloadN X10 hx (hb hby own_d_jdk_52_method_21_code_26) rfl rfl rfl ?_
          refine own_iloadN X10 hx (hb hby own_d_jdk_52_method_21_code_27) rfl rfl ?_
          refine own_iload X10 hx (hb hby own_d_jdk_52_method_21_code_28) rfl rfl ?_
          refine own_i2b X10 hx (hb hby own_d_jdk_52_method_21_code_30) rfl ?_
          refine own_stB X10 hx hZ e10 V10 ⟨by decide, by decide⟩ 3 rfl (Nat.le_of_ble_eq_true rfl) (own_lo8 x3) N10 g_b1 (hb hby own_d_jdk_52_method_21_code_31) rfl ?_
          intro T14 h14 X14 e14 W14 N14 V14
          have K15 := K11.wr W14 (Or.inl (List.mem_of_getElem? (i := 0) rfl))
          refine own_iinc X14 hx #[.val (.ref c1), .val (.int (4 : Int32)), .val (.ref b1), .val (.int (3 : Int32)), .val (.int (4 : Int32)), .val (.int (3 : Int32)), .val (.int x3)] (hb hby own_d_jdk_52_method_21_code_32) rfl rfl rfl ?_
          refine own_iinc X14 hx #[.val (.ref c1), .val (.int (4 : Int32)), .val (.ref b1), .val (.int (4 : Int32)), .val (.int (4 : Int32)), .val (.int (3 : Int32)), .val (.int x3)] (hb hby own_d_jdk_52_method_21_code_35) rfl rfl rfl ?_
          refine own_iinc X14 hx #[.val (.ref c1), .val (.int (4 : Int32)), .val (.ref b1), .val (.int (4 : Int32)), .val (.int (4 : Int32)), .val (.int (4 : Int32)), .val (.int x3)] (hb hby own_d_jdk_52_method_21_code_38) rfl rfl rfl ?_
          refine own_goto X14 hx (hb hby own_d_jdk_52_method_21_code_41) (by decide) rfl ?_
          refine own_iload X14 hx (hb hby own_d_jdk_52_method_21_code_3) rfl rfl ?_
          refine own_iload X14 hx (hb hby own_d_jdk_52_method_21_code_5) rfl rfl ?_
          refine own_icmpT X14 hx (hb hby own_d_jdk_52_method_21_code_7) (by decide) rfl (by decide) ?_
          refine own_iload X14 hx (hb hby own_d_jdk_52_method_21_code_44) rfl rfl ?_
          exact own_retI X14 hx hlocks hret (hb hby own_d_jdk_52_method_21_code_46) (by decide) (by decide) (by exfalso; rcases HB with hb | hb | hb | hb <;> contradiction)
        · refine own_iload X10 hx (hb hby own_d_jdk_52_method_21_code_23) rfl rfl ?_
          exact own_retI X10 hx hlocks hret (hb hby own_d_jdk_52_method_21_code_25) (by decide) (by decide) ⟨_, rfl, Or.inr (Or.inr (Or.inr (⟨rfl, hc20_13⟩))), N10, by rw [e10]; exact K11⟩
      · refine own_iload X6 hx (hb hby own_d_jdk_52_method_21_code_23) rfl rfl ?_
        exact own_retI X6 hx hlocks hret (hb hby own_d_jdk_52_method_21_code_25) (by decide) (by decide) ⟨_, rfl, Or.inr (Or.inr (Or.inl ⟨rfl, hc20_9⟩)), N6, by rw [e6]; exact K7⟩
    · refine own_iload X2 hx (hb hby own_d_jdk_52_method_21_code_23) rfl rfl ?_
      exact own_retI X2 hx hlocks hret (hb hby own_d_jdk_52_method_21_code_25) (by decide) (by decide) ⟨_, rfl, Or.inr (Or.inl ⟨rfl, hc20_5⟩), N2, by rw [e2]; exact K3⟩
  · refine own_iload X0 hx (hb hby own_d_jdk_52_method_21_code_23) rfl rfl ?_
    exact own_retI X0 hx hlocks hret (hb hby own_d_jdk_52_method_21_code_25) (by decide) (by decide) ⟨_, rfl, Or.inl ⟨rfl, hc20_1⟩, N0, by rw [e0]; exact K0⟩
set_option maxRecDepth 65536 in
set_option maxHeartbeats 40000000 in
theorem own_cmpo4 (l : Launch) (Z : State) (a0 : Array Value) (hw : ∀ d ∈ tables_1, d.before a0 Z = true) (c1 : Addr) (kc : ClassId) (x0 x1 x2 x3 : Int32) (h0 : Heap) (n0 : Nat) (O0 : Old Z n0 h0) (SA : Sta Z Z.heap "java/lang/StringUTF16" "$assertionsDisabled" "Z" (.int (1 : Int32))) (SH : Sta Z Z.heap "java/lang/StringUTF16" "HI_BYTE_SHIFT" "I" (.int (0 : Int32))) (SL : Sta Z Z.heap "java/lang/StringUTF16" "LO_BYTE_SHIFT" "I" (.int (8 : Int32))) (hx0 : ¬ x0 < 0 ∧ ¬ (65535 : Int32) < x0) (hx1 : ¬ x1 < 0 ∧ ¬ (65535 : Int32) < x1) (hx2 : ¬ x2 < 0 ∧ ¬ (65535 : Int32) < x2) (hx3 : ¬ x3 < 0 ∧ ¬ (65535 : Int32) < x3) (VC : Arv Z h0 c1 kc .char (4 : Int32) [.int x0, .int x1, .int x2, .int x3] (.int (0 : Int32))) (HB : (255 : Int32) < x0 ∨ (255 : Int32) < x1 ∨ (255 : Int32) < x2 ∨ (255 : Int32) < x3) :
    own_Met l (⟨"java/lang/StringUTF16", "compress", "([CII)[B"⟩ : MethodName) jdk_52_method_16_code 6 (some (.array .byte)) ({ frames := 3, cells := 2, slots := 12, locals := 40 } : Room) Z #[(.ref c1), (.int (0 : Int32)), (.int (4 : Int32))] h0 (fun v h L => ∃ (b : Addr) (k : ClassId), v = some (.ref b) ∧ Fr n0 L ∧ Keep h0 h [] ∧ n0 ≤ b ∧ h0.size ≤ b ∧ Arv Z h b k .byte (8 : Int32) [.int (StrChars.lo8 x0), .int (StrChars.hi8 x0), .int (StrChars.lo8 x1), .int (StrChars.hi8 x1), .int (StrChars.lo8 x2), .int (StrChars.hi8 x2), .int (StrChars.lo8 x3), .int (StrChars.hi8 x3)] (.int (0 : Int32))) := by
  refine own_met (plainFor_of_name own_pn_java_lang_StringUTF16) ?_
  intro p e s m below meth c T0 hx hby hml hZ hown hnm hret hlocks X0 e0 hh0
  have ef : entryFrame m #[(.ref c1), (.int (0 : Int32)), (.int (4 : Int32))] 6 = mkF m 0 #[.val (.ref c1), .val (.int (0 : Int32)), .val (.int (4 : Int32)), .unset, .unset, .unset] [] := by first | (simp [entryFrame, mkF, argsToLocals, Value.category]; done) | rfl
  refine own_entry ef ?_
  have N0 := Fr.nil n0
  have K0 := Keep.refl h0 []
  have Z0 : n0 ≤ h0.size := O0.1 ▸ O0.2.1
  refine own_iloadN X0 hx (hb hby own_d_jdk_52_method_16_code_0) rfl rfl ?_
  refine own_newP X0 hx hZ (aty := .byte) (hw _ (List.mem_of_getElem? (i := 25) rfl)) e0 (hb hby own_d_jdk_52_method_16_code_1) (by decide) 4 (by decide) (by decide) (by decide) (by decide) rfl ?_
  intro T1 h1 b1 k1 X1 e1 g1 E1 V1q
  have g_b1 : n0 ≤ b1 := Nat.le_trans (own_oz O0) (Nat.le_of_eq g1.symm)
  have sz_b1 : h0.size ≤ b1 := Nat.le_trans K0.1 (Nat.le_of_eq g1.symm)
  have K2 := K0.ext E1
  have V1 : Arv Z h1 b1 k1 .byte (4 : Int32) [(.int (0 : Int32)), (.int (0 : Int32)), (.int (0 : Int32)), (.int (0 : Int32))] (.int (0 : Int32)) := Arv.pad V1q (pad_rep [] (.int (0 : Int32)) 4)
  refine own_astoreN X1 hx #[.val (.ref c1), .val (.int (0 : Int32)), .val (.int (4 : Int32)), .val (.ref b1), .unset, .unset] (hb hby own_d_jdk_52_method_16_code_3) rfl rfl rfl ?_
  refine own_aloadN X1 hx (hb hby own_d_jdk_52_method_16_code_4) rfl rfl rfl ?_
  refine own_iloadN X1 hx (hb hby own_d_jdk_52_method_16_code_5) rfl rfl ?_
  refine own_aloadN X1 hx (hb hby own_d_jdk_52_method_16_code_6) rfl rfl rfl ?_
  refine own_iconst X1 hx (0 : Int32) (hb hby own_d_jdk_52_method_16_code_7) (by decide) rfl ?_
  refine own_iloadN X1 hx (hb hby own_d_jdk_52_method_16_code_8) rfl rfl ?_
  have f3 := (O0.ext E1)
  have f4 := (VC.ext E1)
  refine own_static X1 hx hZ (y := (⟨"java/lang/StringUTF16", "compress", "([CI[BII)I"⟩ : MethodName)) hown (hw _ (List.mem_of_getElem? (i := 54) rfl)) (hw _ (List.mem_of_getElem? (i := 55) rfl)) (hw _ (List.mem_of_getElem? (i := 52) rfl)) (hw _ (List.mem_of_getElem? (i := 56) rfl)) (by decide) e1 (by decide) (W := 0) (by decide) (by decide) (by decide) [(.ref c1), (.int (0 : Int32)), (.ref b1), (.int (0 : Int32)), (.int (4 : Int32))] [] (by rw [hml]; rfl) (own_cmpi4 l Z a0 hw c1 _ x0 x1 x2 x3 b1 _ h1 n0 f3 f4 g_b1 V1 HB) own_pd3 rfl rfl rfl (hb hby own_d_jdk_52_method_16_code_9) rfl ?_
  intro v5 T5 L5 X5 hQ5
  obtain ⟨i5, rfl, hi5, Nq5, Kq5⟩ := hQ5
  have N5 := Fr.app N0 Nq5
  have K6 := K2.trans Kq5 (allS (Or.inr sz_b1) all0)
  show own_Ends p e below _ (T5.setTop (mkF m 12 #[.val (.ref c1), .val (.int (0 : Int32)), .val (.int (4 : Int32)), .val (.ref b1), .unset, .unset] [(.int i5)]))
  rcases hi5 with ⟨rfl, hb0⟩ | ⟨rfl, hb1⟩ | ⟨rfl, hb2⟩ | ⟨rfl, hb3⟩
  · refine own_istore X5 hx #[.val (.ref c1), .val (.int (0 : Int32)), .val (.int (4 : Int32)), .val (.ref b1), .val (.int (0 : Int32)), .unset] (hb hby own_d_jdk_52_method_16_code_12) rfl rfl ?_
    refine own_iload X5 hx (hb hby own_d_jdk_52_method_16_code_14) rfl rfl ?_
    refine own_iloadN X5 hx (hb hby own_d_jdk_52_method_16_code_16) rfl rfl ?_
    refine own_icmpF X5 hx (hb hby own_d_jdk_52_method_16_code_17) rfl (by decide) ?_
    refine own_aloadN X5 hx (hb hby own_d_jdk_52_method_16_code_20) rfl rfl rfl ?_
    refine own_iloadN X5 hx (hb hby own_d_jdk_52_method_16_code_21) rfl rfl ?_
    refine own_iloadN X5 hx (hb hby own_d_jdk_52_method_16_code_22) rfl rfl ?_
    have f7 := (f3.keep Kq5 (allS g_b1 all0))
    have f8 := (f4.keep Kq5 (ninS (Nat.ne_of_lt (Nat.lt_of_lt_of_le VC.lt (Nat.le_of_eq g1.symm))) nin0))
    refine own_static X5 hx hZ (y := (⟨"java/lang/StringUTF16", "toBytes", "([CII)[B"⟩ : MethodName)) hown (hw _ (List.mem_of_getElem? (i := 60) rfl)) (hw _ (List.mem_of_getElem? (i := 61) rfl)) (hw _ (List.mem_of_getElem? (i := 52) rfl)) (hw _ (List.mem_of_getElem? (i := 62) rfl)) (by decide) rfl (by decide) (W := 0) (by decide) (by decide) (by decide) [(.ref c1), (.int (0 : Int32)), (.int (4 : Int32))] [] (by rw [hml]; rfl) (own_tob4 l Z a0 hw c1 _ x0 x1 x2 x3 T5.heap n0 f7 SA SH SL f8) own_pd4 rfl rfl rfl (hb hby own_d_jdk_52_method_16_code_23) rfl ?_
    intro v9 T9 L9 X9 hQ9
    obtain ⟨b9, k9, rfl, Nq9, Kq9, g_b9, sz_b9, V9⟩ := hQ9
    have sz_b9 := Nat.le_trans K6.1 sz_b9
    have N9 := Fr.app N5 Nq9
    have K10 := K6.trans Kq9 all0
    show own_Ends p e below _ (T9.setTop (mkF m 26 #[.val (.ref c1), .val (.int (0 : Int32)), .val (.int (4 : Int32)), .val (.ref b1), .val (.int (0 : Int32)), .unset] [(.ref b9)]))
    refine own_astore X9 hx #[.val (.ref c1), .val (.int (0 : Int32)), .val (.int (4 : Int32)), .val (.ref b1), .val (.int (0 : Int32)), .val (.ref b9)] (hb hby own_d_jdk_52_method_16_code_26) rfl rfl rfl ?_
    refine own_aload X9 hx (hb hby own_d_jdk_52_method_16_code_28) rfl rfl rfl ?_
    refine own_iload X9 hx (hb hby own_d_jdk_52_method_16_code_30) rfl rfl ?_
    have f11 := (f7.keep Kq9 all0)
    refine own_static X9 hx hZ (y := (⟨"java/lang/StringUTF16", "getChar", "([BI)C"⟩ : MethodName)) hown (hw _ (List.mem_of_getElem? (i := 76) rfl)) (hw _ (List.mem_of_getElem? (i := 77) rfl)) (hw _ (List.mem_of_getElem? (i := 52) rfl)) (hw _ (List.mem_of_getElem? (i := 78) rfl)) (by decide) rfl (by decide) (W := 0) (by decide) (by decide) (by decide) [(.ref b9), (.int (0 : Int32))] [] (by rw [hml]; rfl) (own_get4_0 l Z a0 hw b9 _ x0 x1 x2 x3 T9.heap n0 f11 SA SH SL hx0 hx1 hx2 hx3 V9) own_pd5 rfl rfl rfl (hb hby own_d_jdk_52_method_16_code_32) rfl ?_
    intro v12 T12 L12 X12 hQ12
    obtain ⟨rfl, Nq12, hh12⟩ := hQ12
    have N12 := Fr.app N9 Nq12
    show own_Ends p e below _ (T12.setTop (mkF m 35 #[.val (.ref c1), .val (.int (0 : Int32)), .val (.int (4 : Int32)), .val (.ref b1), .val (.int (0 : Int32)), .val (.ref b9)] [(.int x0)]))
    refine own_sipush X12 hx (255 : Int32) (hb hby own_d_jdk_52_method_16_code_35) (by decide) rfl ?_
    refine own_icmpT X12 hx (hb hby own_d_jdk_52_method_16_code_38) (by decide) rfl (tlt hb0).2.2.1 ?_
    refine own_aload X12 hx (hb hby own_d_jdk_52_method_16_code_54) rfl rfl rfl ?_
    exact own_retA X12 hx hlocks hret rfl rfl (hb hby own_d_jdk_52_method_16_code_56) (by decide) (by decide) ⟨b9, _, rfl, N12, by rw [hh12]; exact ⟨K10, g_b9, sz_b9, V9⟩⟩
  · refine own_istore X5 hx #[.val (.ref c1), .val (.int (0 : Int32)), .val (.int (4 : Int32)), .val (.ref b1), .val (.int (1 : Int32)), .unset] (hb hby own_d_jdk_52_method_16_code_12) rfl rfl ?_
    refine own_iload X5 hx (hb hby own_d_jdk_52_method_16_code_14) rfl rfl ?_
    refine own_iloadN X5 hx (hb hby own_d_jdk_52_method_16_code_16) rfl rfl ?_
    refine own_icmpF X5 hx (hb hby own_d_jdk_52_method_16_code_17) rfl (by decide) ?_
    refine own_aloadN X5 hx (hb hby own_d_jdk_52_method_16_code_20) rfl rfl rfl ?_
    refine own_iloadN X5 hx (hb hby own_d_jdk_52_method_16_code_21) rfl rfl ?_
    refine own_iloadN X5 hx (hb hby own_d_jdk_52_method_16_code_22) rfl rfl ?_
    have f13 := (f3.keep Kq5 (allS g_b1 all0))
    have f14 := (f4.keep Kq5 (ninS (Nat.ne_of_lt (Nat.lt_of_lt_of_le VC.lt (Nat.le_of_eq g1.symm))) nin0))
    refine own_static X5 hx hZ (y := (⟨"java/lang/StringUTF16", "toBytes", "([CII)[B"⟩ : MethodName)) hown (hw _ (List.mem_of_getElem? (i := 60) rfl)) (hw _ (List.mem_of_getElem? (i := 61) rfl)) (hw _ (List.mem_of_getElem? (i := 52) rfl)) (hw _ (List.mem_of_getElem? (i := 62) rfl)) (by decide) rfl (by decide) (W := 0) (by decide) (by decide) (by decide) [(.ref c1), (.int (0 : Int32)), (.int (4 : Int32))] [] (by rw [hml]; rfl) (own_tob4 l Z a0 hw c1 _ x0 x1 x2 x3 T5.heap n0 f13 SA SH SL f14) own_pd4 rfl rfl rfl (hb hby own_d_jdk_52_method_16_code_23) rfl ?_
    intro v15 T15 L15 X15 hQ15
    obtain ⟨b15, k15, rfl, Nq15, Kq15, g_b15, sz_b15, V15⟩ := hQ15
    have sz_b15 := Nat.le_trans K6.1 sz_b15
    have N15 := Fr.app N5 Nq15
    have K16 := K6.trans Kq15 all0
    show own_Ends p e below _ (T15.setTop (mkF m 26 #[.val (.ref c1), .val (.int (0 : Int32)), .val (.int (4 : Int32)), .val (.ref b1), .val (.int (1 : Int32)), .unset] [(.ref b15)]))
    refine own_astore X15 hx #[.val (.ref c1), .val (.int (0 : Int32)), .val (.int (4 : Int32)), .val (.ref b1), .val (.int (1 : Int32)), .val (.ref b15)] (hb hby own_d_jdk_52_method_16_code_26) rfl rfl rfl ?_
    refine own_aload X15 hx (hb hby own_d_jdk_52_method_16_code_28) rfl rfl rfl ?_
    refine own_iload X15 hx (hb hby own_d_jdk_52_method_16_code_30) rfl rfl ?_
    have f17 := (f13.keep Kq15 all0)
    refine own_static X15 hx hZ (y := (⟨"java/lang/StringUTF16", "getChar", "([BI)C"⟩ : MethodName)) hown (hw _ (List.mem_of_getElem? (i := 76) rfl)) (hw _ (List.mem_of_getElem? (i := 77) rfl)) (hw _ (List.mem_of_getElem? (i := 52) rfl)) (hw _ (List.mem_of_getElem? (i := 78) rfl)) (by decide) rfl (by decide) (W := 0) (by decide) (by decide) (by decide) [(.ref b15), (.int (1 : Int32))] [] (by rw [hml]; rfl) (own_get4_1 l Z a0 hw b15 _ x0 x1 x2 x3 T15.heap n0 f17 SA SH SL hx0 hx1 hx2 hx3 V15) own_pd5 rfl rfl rfl (hb hby own_d_jdk_52_method_16_code_32) rfl ?_
    intro v18 T18 L18 X18 hQ18
    obtain ⟨rfl, Nq18, hh18⟩ := hQ18
    have N18 := Fr.app N15 Nq18
    show own_Ends p e below _ (T18.setTop (mkF m 35 #[.val (.ref c1), .val (.int (0 : Int32)), .val (.int (4 : Int32)), .val (.ref b1), .val (.int (1 : Int32)), .val (.ref b15)] [(.int x1)]))
    refine own_sipush X18 hx (255 : Int32) (hb hby own_d_jdk_52_method_16_code_35) (by decide) rfl ?_
    refine own_icmpT X18 hx (hb hby own_d_jdk_52_method_16_code_38) (by decide) rfl (tlt hb1).2.2.1 ?_
    refine own_aload X18 hx (hb hby own_d_jdk_52_method_16_code_54) rfl rfl rfl ?_
    exact own_retA X18 hx hlocks hret rfl rfl (hb hby own_d_jdk_52_method_16_code_56) (by decide) (by decide) ⟨b15, _, rfl, N18, by rw [hh18]; exact ⟨K16, g_b15, sz_b15, V15⟩⟩
  · refine own_istore X5 hx #[.val (.ref c1), .val (.int (0 : Int32)), .val (.int (4 : Int32)), .val (.ref b1), .val (.int (2 : Int32)), .unset] (hb hby own_d_jdk_52_method_16_code_12) rfl rfl ?_
    refine own_iload X5 hx (hb hby own_d_jdk_52_method_16_code_14) rfl rfl ?_
    refine own_iloadN X5 hx (hb hby own_d_jdk_52_method_16_code_16) rfl rfl ?_
    refine own_icmpF X5 hx (hb hby own_d_jdk_52_method_16_code_17) rfl (by decide) ?_
    refine own_aloadN X5 hx (hb hby own_d_jdk_52_method_16_code_20) rfl rfl rfl ?_
    refine own_iloadN X5 hx (hb hby own_d_jdk_52_method_16_code_21) rfl rfl ?_
    refine own_iloadN X5 hx (hb hby own_d_jdk_52_method_16_code_22) rfl rfl ?_
    have f19 := (f3.keep Kq5 (allS g_b1 all0))
    have f20 := (f4.keep Kq5 (ninS (Nat.ne_of_lt (Nat.lt_of_lt_of_le VC.lt (Nat.le_of_eq g1.symm))) nin0))
    refine own_static X5 hx hZ (y := (⟨"java/lang/StringUTF16", "toBytes", "([CII)[B"⟩ : MethodName)) hown (hw _ (List.mem_of_getElem? (i := 60) rfl)) (hw _ (List.mem_of_getElem? (i := 61) rfl)) (hw _ (List.mem_of_getElem? (i := 52) rfl)) (hw _ (List.mem_of_getElem? (i := 62) rfl)) (by decide) rfl (by decide) (W := 0) (by decide) (by decide) (by decide) [(.ref c1), (.int (0 : Int32)), (.int (4 : Int32))] [] (by rw [hml]; rfl) (own_tob4 l Z a0 hw c1 _ x0 x1 x2 x3 T5.heap n0 f19 SA SH SL f20) own_pd4 rfl rfl rfl (hb hby own_d_jdk_52_method_16_code_23) rfl ?_
    intro v21 T21 L21 X21 hQ21
    obtain ⟨b21, k21, rfl, Nq21, Kq21, g_b21, sz_b21, V21⟩ := hQ21
    have sz_b21 := Nat.le_trans K6.1 sz_b21
    have N21 := Fr.app N5 Nq21
    have K22 := K6.trans Kq21 all0
    show own_Ends p e below _ (T21.setTop (mkF m 26 #[.val (.ref c1), .val (.int (0 : Int32)), .val (.int (4 : Int32)), .val (.ref b1), .val (.int (2 : Int32)), .unset] [(.ref b21)]))
    refine own_astore X21 hx #[.val (.ref c1), .val (.int (0 : Int32)), .val (.int (4 : Int32)), .val (.ref b1), .val (.int (2 : Int32)), .val (.ref b21)] (hb hby own_d_jdk_52_method_16_code_26) rfl rfl rfl ?_
    refine own_aload X21 hx (hb hby own_d_jdk_52_method_16_code_28) rfl rfl rfl ?_
    refine own_iload X21 hx (hb hby own_d_jdk_52_method_16_code_30) rfl rfl ?_
    have f23 := (f19.keep Kq21 all0)
    refine own_static X21 hx hZ (y := (⟨"java/lang/StringUTF16", "getChar", "([BI)C"⟩ : MethodName)) hown (hw _ (List.mem_of_getElem? (i := 76) rfl)) (hw _ (List.mem_of_getElem? (i := 77) rfl)) (hw _ (List.mem_of_getElem? (i := 52) rfl)) (hw _ (List.mem_of_getElem? (i := 78) rfl)) (by decide) rfl (by decide) (W := 0) (by decide) (by decide) (by decide) [(.ref b21), (.int (2 : Int32))] [] (by rw [hml]; rfl) (own_get4_2 l Z a0 hw b21 _ x0 x1 x2 x3 T21.heap n0 f23 SA SH SL hx0 hx1 hx2 hx3 V21) own_pd5 rfl rfl rfl (hb hby own_d_jdk_52_method_16_code_32) rfl ?_
    intro v24 T24 L24 X24 hQ24
    obtain ⟨rfl, Nq24, hh24⟩ := hQ24
    have N24 := Fr.app N21 Nq24
    show own_Ends p e below _ (T24.setTop (mkF m 35 #[.val (.ref c1), .val (.int (0 : Int32)), .val (.int (4 : Int32)), .val (.ref b1), .val (.int (2 : Int32)), .val (.ref b21)] [(.int x2)]))
    refine own_sipush X24 hx (255 : Int32) (hb hby own_d_jdk_52_method_16_code_35) (by decide) rfl ?_
    refine own_icmpT X24 hx (hb hby own_d_jdk_52_method_16_code_38) (by decide) rfl (tlt hb2).2.2.1 ?_
    refine own_aload X24 hx (hb hby own_d_jdk_52_method_16_code_54) rfl rfl rfl ?_
    exact own_retA X24 hx hlocks hret rfl rfl (hb hby own_d_jdk_52_method_16_code_56) (by decide) (by decide) ⟨b21, _, rfl, N24, by rw [hh24]; exact ⟨K22, g_b21, sz_b21, V21⟩⟩
  · refine own_istore X5 hx #[.val (.ref c1), .val (.int (0 : Int32)), .val (.int (4 : Int32)), .val (.ref b1), .val (.int (3 : Int32)), .unset] (hb hby own_d_jdk_52_method_16_code_12) rfl rfl ?_
    refine own_iload X5 hx (hb hby own_d_jdk_52_method_16_code_14) rfl rfl ?_
    refine own_iloadN X5 hx (hb hby own_d_jdk_52_method_16_code_16) rfl rfl ?_
    refine own_icmpF X5 hx (hb hby own_d_jdk_52_method_16_code_17) rfl (by decide) ?_
    refine own_aloadN X5 hx (hb hby own_d_jdk_52_method_16_code_20) rfl rfl rfl ?_
    refine own_iloadN X5 hx (hb hby own_d_jdk_52_method_16_code_21) rfl rfl ?_
    refine own_iloadN X5 hx (hb hby own_d_jdk_52_method_16_code_22) rfl rfl ?_
    have f25 := (f3.keep Kq5 (allS g_b1 all0))
    have f26 := (f4.keep Kq5 (ninS (Nat.ne_of_lt (Nat.lt_of_lt_of_le VC.lt (Nat.le_of_eq g1.symm))) nin0))
    refine own_static X5 hx hZ (y := (⟨"java/lang/StringUTF16", "toBytes", "([CII)[B"⟩ : MethodName)) hown (hw _ (List.mem_of_getElem? (i := 60) rfl)) (hw _ (List.mem_of_getElem? (i := 61) rfl)) (hw _ (List.mem_of_getElem? (i := 52) rfl)) (hw _ (List.mem_of_getElem? (i := 62) rfl)) (by decide) rfl (by decide) (W := 0) (by decide) (by decide) (by decide) [(.ref c1), (.int (0 : Int32)), (.int (4 : Int32))] [] (by rw [hml]; rfl) (own_tob4 l Z a0 hw c1 _ x0 x1 x2 x3 T5.heap n0 f25 SA SH SL f26) own_pd4 rfl rfl rfl (hb hby own_d_jdk_52_method_16_code_23) rfl ?_
    intro v27 T27 L27 X27 hQ27
    obtain ⟨b27, k27, rfl, Nq27, Kq27, g_b27, sz_b27, V27⟩ := hQ27
    have sz_b27 := Nat.le_trans K6.1 sz_b27
    have N27 := Fr.app N5 Nq27
    have K28 := K6.trans Kq27 all0
    show own_Ends p e below _ (T27.setTop (mkF m 26 #[.val (.ref c1), .val (.int (0 : Int32)), .val (.int (4 : Int32)), .val (.ref b1), .val (.int (3 : Int32)), .unset] [(.ref b27)]))
    refine own_astore X27 hx #[.val (.ref c1), .val (.int (0 : Int32)), .val (.int (4 : Int32)), .val (.ref b1), .val (.int (3 : Int32)), .val (.ref b27)] (hb hby own_d_jdk_52_method_16_code_26) rfl rfl rfl ?_
    refine own_aload X27 hx (hb hby own_d_jdk_52_method_16_code_28) rfl rfl rfl ?_
    refine own_iload X27 hx (hb hby own_d_jdk_52_method_16_code_30) rfl rfl ?_
    have f29 := (f25.keep Kq27 all0)
    refine own_static X27 hx hZ (y := (⟨"java/lang/StringUTF16", "getChar", "([BI)C"⟩ : MethodName)) hown (hw _ (List.mem_of_getElem? (i := 76) rfl)) (hw _ (List.mem_of_getElem? (i := 77) rfl)) (hw _ (List.mem_of_getElem? (i := 52) rfl)) (hw _ (List.mem_of_getElem? (i := 78) rfl)) (by decide) rfl (by decide) (W := 0) (by decide) (by decide) (by decide) [(.ref b27), (.int (3 : Int32))] [] (by rw [hml]; rfl) (own_get4_3 l Z a0 hw b27 _ x0 x1 x2 x3 T27.heap n0 f29 SA SH SL hx0 hx1 hx2 hx3 V27) own_pd5 rfl rfl rfl (hb hby own_d_jdk_52_method_16_code_32) rfl ?_
    intro v30 T30 L30 X30 hQ30
    obtain ⟨rfl, Nq30, hh30⟩ := hQ30
    have N30 := Fr.app N27 Nq30
    show own_Ends p e below _ (T30.setTop (mkF m 35 #[.val (.ref c1), .val (.int (0 : Int32)), .val (.int (4 : Int32)), .val (.ref b1), .val (.int (3 : Int32)), .val (.ref b27)] [(.int x3)]))
    refine own_sipush X30 hx (255 : Int32) (hb hby own_d_jdk_52_method_16_code_35) (by decide) rfl ?_
    refine own_icmpT X30 hx (hb hby own_d_jdk_52_method_16_code_38) (by decide) rfl (tlt hb3).2.2.1 ?_
    refine own_aload X30 hx (hb hby own_d_jdk_52_method_16_code_54) rfl rfl rfl ?_
    exact own_retA X30 hx hlocks hret rfl rfl (hb hby own_d_jdk_52_method_16_code_56) (by decide) (by decide) ⟨b27, _, rfl, N30, by rw [hh30]; exact ⟨K28, g_b27, sz_b27, V27⟩⟩
set_option maxRecDepth 65536 in
set_option maxHeartbeats 40000000 in
theorem own_cdr4 (l : Launch) (Z : State) (a0 : Array Value) (hw : ∀ d ∈ tables_1, d.before a0 Z = true) (b1 : Addr) (kb : ClassId) (x0 x1 x2 x3 : Int32) (h0 : Heap) (n0 : Nat) (VB : Arv Z h0 b1 kb .byte (8 : Int32) [.int (StrChars.lo8 x0), .int (StrChars.hi8 x0), .int (StrChars.lo8 x1), .int (StrChars.hi8 x1), .int (StrChars.lo8 x2), .int (StrChars.hi8 x2), .int (StrChars.lo8 x3), .int (StrChars.hi8 x3)] (.int (0 : Int32))) :
    own_Met l (⟨"java/lang/StringUTF16", "coderFromArrayLen", "([BI)B"⟩ : MethodName) jdk_52_method_15_code 2 (some .byte) ({ frames := 0, cells := 0, slots := 0, locals := 0 } : Room) Z #[(.ref b1), (.int (4 : Int32))] h0 (fun v h L => v = some (.int (1 : Int32)) ∧ Fr n0 L ∧ h = h0) := by
  refine own_met (plainFor_of_name own_pn_java_lang_StringUTF16) ?_
  intro p e s m below meth c T0 hx hby hml hZ hown hnm hret hlocks X0 e0 hh0
  have ef : entryFrame m #[(.ref b1), (.int (4 : Int32))] 2 = mkF m 0 #[.val (.ref b1), .val (.int (4 : Int32))] [] := by first | (simp [entryFrame, mkF, argsToLocals, Value.category]; done) | rfl
  refine own_entry ef ?_
  have N0 := Fr.nil n0
  refine own_iloadN X0 hx (hb hby own_d_jdk_52_method_15_code_0) rfl rfl ?_
  refine own_aloadN X0 hx (hb hby own_d_jdk_52_method_15_code_1) rfl rfl rfl ?_
  refine own_arraylength X0 hx hZ e0 VB (hb hby own_d_jdk_52_method_15_code_2) rfl ?_
  refine own_isub X0 hx (hb hby own_d_jdk_52_method_15_code_3) rfl ?_
  rw [show ((4 : Int32) - (8 : Int32)) = (-4 : Int32) from by decide]
  refine own_bipush X0 hx (31 : Int32) (hb hby own_d_jdk_52_method_15_code_4) (by decide) rfl ?_
  refine own_iushr X0 hx (hb hby own_d_jdk_52_method_15_code_6) rfl ?_
  rw [show (own_ushr (-4 : Int32) (31 : Int32)) = (1 : Int32) from by decide]
  refine own_i2b X0 hx (hb hby own_d_jdk_52_method_15_code_7) rfl ?_
  rw [show ((1 : Int32).toInt8.toInt32) = (1 : Int32) from by decide]
  exact own_retN X0 hx hlocks hret (by simp) (hb hby own_d_jdk_52_method_15_code_8) (by decide) (by decide) (by decide) ⟨rfl, N0, e0⟩
set_option maxRecDepth 65536 in
set_option maxHeartbeats 40000000 in
theorem own_wi4 (l : Launch) (Z : State) (a0 : Array Value) (hw : ∀ d ∈ tables_1, d.before a0 Z = true) (a1 : Addr) (zc : Int32) (c1 : Addr) (kc : ClassId) (x0 x1 x2 x3 : Int32) (h0 : Heap) (n0 : Nat) (O0 : Old Z n0 h0) (SC : Sta Z Z.heap "java/lang/String" "COMPACT_STRINGS" "Z" (.int zc)) (hzc : ¬ zc = 0) (SA : Sta Z Z.heap "java/lang/StringUTF16" "$assertionsDisabled" "Z" (.int (1 : Int32))) (SH : Sta Z Z.heap "java/lang/StringUTF16" "HI_BYTE_SHIFT" "I" (.int (0 : Int32))) (SL : Sta Z Z.heap "java/lang/StringUTF16" "LO_BYTE_SHIFT" "I" (.int (8 : Int32))) (hx0 : ¬ x0 < 0 ∧ ¬ (65535 : Int32) < x0) (hx1 : ¬ x1 < 0 ∧ ¬ (65535 : Int32) < x1) (hx2 : ¬ x2 < 0 ∧ ¬ (65535 : Int32) < x2) (hx3 : ¬ x3 < 0 ∧ ¬ (65535 : Int32) < x3) (g_a1 : n0 ≤ a1) (E0 : Exa Z h0 a1 "java/lang/String") (F1 : Fld Z h0 a1 "java/lang/String" "value" "[B" .null) (F2 : Fld Z h0 a1 "java/lang/String" "coder" "B" (.int (0 : Int32))) (VC : Arv Z h0 c1 kc .char (4 : Int32) [.int x0, .int x1, .int x2, .int x3] (.int (0 : Int32))) (HB : (255 : Int32) < x0 ∨ (255 : Int32) < x1 ∨ (255 : Int32) < x2 ∨ (255 : Int32) < x3) :
    own_Met l (⟨"java/lang/String", "<init>", "([CIILjava/lang/Void;)V"⟩ : MethodName) jdk_42_method_149_code 6 none ({ frames := 4, cells := 2, slots := 12, locals := 57 } : Room) Z #[(.ref a1), (.ref c1), (.int (0 : Int32)), (.int (4 : Int32)), .null] h0 (fun v h L => v = none ∧ Fr n0 L ∧ Keep h0 h [a1] ∧ own_Str Z h a1 [x0, x1, x2, x3]) := by
  refine own_met (plainFor_of_name own_pn_java_lang_String) ?_
  intro p e s m below meth c T0 hx hby hml hZ hown hnm hret hlocks X0 e0 hh0
  have ef : entryFrame m #[(.ref a1), (.ref c1), (.int (0 : Int32)), (.int (4 : Int32)), .null] 6 = mkF m 0 #[.val (.ref a1), .val (.ref c1), .val (.int (0 : Int32)), .val (.int (4 : Int32)), .val .null, .unset] [] := by first | (simp [entryFrame, mkF, argsToLocals, Value.category]; done) | rfl
  refine own_entry ef ?_
  have N0 := Fr.nil n0
  have K0 := Keep.refl h0 [a1]
  have Z0 : n0 ≤ h0.size := O0.1 ▸ O0.2.1
  refine own_aloadN X0 hx (hb hby own_d_jdk_42_method_149_code_0) rfl rfl rfl ?_
  refine own_initO X0 hx hZ hown (hw _ (List.mem_of_getElem? (i := 21) rfl)) (hw _ (List.mem_of_getElem? (i := 22) rfl)) (hw _ (List.mem_of_getElem? (i := 23) rfl)) e0 (by rw [hml]; rfl) (hb hby own_d_jdk_42_method_149_code_1) 0 rfl (by decide) (by decide) rfl ?_
  intro T1 X1 e1
  refine own_iloadN X1 hx (hb hby own_d_jdk_42_method_149_code_4) rfl rfl ?_
  refine own_ifT X1 hx (hb hby own_d_jdk_42_method_149_code_5) (by decide) rfl (by decide) ?_
  refine own_getS X1 hx hZ hown (host := "") (Or.inl (hw _ (List.mem_of_getElem? (i := 43) rfl))) Via.refl e1 (SC.ext O0.2) (hb hby own_d_jdk_42_method_149_code_27) rfl ?_
  intro T2 X2 e2
  refine own_ifF X2 hx (hb hby own_d_jdk_42_method_149_code_30) rfl (feq hzc).1 ?_
  refine own_aloadN X2 hx (hb hby own_d_jdk_42_method_149_code_33) rfl rfl rfl ?_
  refine own_iloadN X2 hx (hb hby own_d_jdk_42_method_149_code_34) rfl rfl ?_
  refine own_iloadN X2 hx (hb hby own_d_jdk_42_method_149_code_35) rfl rfl ?_
  refine own_static X2 hx hZ (y := (⟨"java/lang/StringUTF16", "compress", "([CII)[B"⟩ : MethodName)) hown (hw _ (List.mem_of_getElem? (i := 50) rfl)) (hw _ (List.mem_of_getElem? (i := 51) rfl)) (hw _ (List.mem_of_getElem? (i := 52) rfl)) (hw _ (List.mem_of_getElem? (i := 53) rfl)) (by decide) e2 (by decide) (W := 0) (by decide) (by decide) (by decide) [(.ref c1), (.int (0 : Int32)), (.int (4 : Int32))] [] (by rw [hml]; rfl) (own_cmpo4 l Z a0 hw c1 _ x0 x1 x2 x3 h0 n0 O0 SA SH SL hx0 hx1 hx2 hx3 VC HB) own_pd4 rfl rfl rfl (hb hby own_d_jdk_42_method_149_code_36) rfl ?_
  intro v3 T3 L3 X3 hQ3
  obtain ⟨b3, k3, rfl, Nq3, Kq3, g_b3, sz_b3, V3⟩ := hQ3
  have sz_b3 := Nat.le_trans K0.1 sz_b3
  have N3 := Fr.app N0 Nq3
  have K4 := K0.trans Kq3 all0
  show own_Ends p e below _ (T3.setTop (mkF m 39 #[.val (.ref a1), .val (.ref c1), .val (.int (0 : Int32)), .val (.int (4 : Int32)), .val .null, .unset] [(.ref b3)]))
  refine own_astore X3 hx #[.val (.ref a1), .val (.ref c1), .val (.int (0 : Int32)), .val (.int (4 : Int32)), .val .null, .val (.ref b3)] (hb hby own_d_jdk_42_method_149_code_39) rfl rfl rfl ?_
  refine own_aloadN X3 hx (hb hby own_d_jdk_42_method_149_code_41) rfl rfl rfl ?_
  refine own_aload X3 hx (hb hby own_d_jdk_42_method_149_code_42) rfl rfl rfl ?_
  refine own_iloadN X3 hx (hb hby own_d_jdk_42_method_149_code_44) rfl rfl ?_
  refine own_static X3 hx hZ (y := (⟨"java/lang/StringUTF16", "coderFromArrayLen", "([BI)B"⟩ : MethodName)) hown (hw _ (List.mem_of_getElem? (i := 57) rfl)) (hw _ (List.mem_of_getElem? (i := 58) rfl)) (hw _ (List.mem_of_getElem? (i := 52) rfl)) (hw _ (List.mem_of_getElem? (i := 59) rfl)) (by decide) rfl (by decide) (W := 1) (by decide) (by decide) (by decide) [(.ref b3), (.int (4 : Int32))] [(.ref a1)] (by rw [hml]; rfl) (own_cdr4 l Z a0 hw b3 _ x0 x1 x2 x3 T3.heap n0 V3) own_pd6 rfl rfl rfl (hb hby own_d_jdk_42_method_149_code_45) rfl ?_
  intro v5 T5 L5 X5 hQ5
  obtain ⟨rfl, Nq5, hh5⟩ := hQ5
  have N5 := Fr.app N3 Nq5
  show own_Ends p e below _ (T5.setTop (mkF m 48 #[.val (.ref a1), .val (.ref c1), .val (.int (0 : Int32)), .val (.int (4 : Int32)), .val .null, .val (.ref b3)] [(.int (1 : Int32)), (.ref a1)]))
  have f6 := (F2.keep Kq3 nin0)
  have f7 := (E0.keep Kq3)
  refine own_putFN X5 hx hZ hown (hw _ (List.mem_of_getElem? (i := 31) rfl)) Via.refl hh5 (.int (1 : Int32)) f6 f7 (Or.inr ⟨(hw _ (List.mem_of_getElem? (i := 27) rfl)), rfl, hnm⟩) (hw _ (List.mem_of_getElem? (i := 11) rfl)) (ty := .byte) (by decide) rfl rfl N5 g_a1 (hb hby own_d_jdk_42_method_149_code_48) rfl ?_
  intro T8 h8 X8 e8 W8 N8
  have K9 := K4.wr W8 (Or.inl (List.mem_of_getElem? (i := 0) rfl))
  have f10 := f6.same W8
  refine own_aloadN X8 hx (hb hby own_d_jdk_42_method_149_code_51) rfl rfl rfl ?_
  refine own_aload X8 hx (hb hby own_d_jdk_42_method_149_code_52) rfl rfl rfl ?_
  have f11 := ((F1.keep Kq3 nin0).other W8 (Or.inr (slot_ne (Or.inr (hw _ (List.mem_of_getElem? (i := 26) rfl))) (Or.inr (hw _ (List.mem_of_getElem? (i := 27) rfl))) (by decide) (t := (.array .byte)) (t' := .byte) (by decide) (by decide))))
  have f12 := (f7.wr W8)
  refine own_putF X8 hx hZ hown (host := "") (Or.inl (hw _ (List.mem_of_getElem? (i := 30) rfl))) Via.refl e8 f11 f12 (Or.inr ⟨(hw _ (List.mem_of_getElem? (i := 26) rfl)), rfl, hnm⟩) (hw _ (List.mem_of_getElem? (i := 11) rfl)) (ty := (.array .byte)) (by decide) rfl rfl N8 g_a1 (hb hby own_d_jdk_42_method_149_code_54) rfl ?_
  intro T13 h13 X13 e13 W13 N13
  have K14 := K9.wr W13 (Or.inl (List.mem_of_getElem? (i := 0) rfl))
  have f15 := f11.same W13
  have f16 := (f12.wr W13)
  have f17 := (f10.other W13 (Or.inr (slot_ne (Or.inr (hw _ (List.mem_of_getElem? (i := 27) rfl))) (Or.inr (hw _ (List.mem_of_getElem? (i := 26) rfl))) (by decide) (t := .byte) (t' := (.array .byte)) (by decide) (by decide))))
  have f18 := ((V3.other W8 (Ne.symm (Exa.neArv f7 V3 (hw _ (List.mem_of_getElem? (i := 11) rfl))))).other W13 (Ne.symm (Exa.neArv f7 V3 (hw _ (List.mem_of_getElem? (i := 11) rfl)))))
  exact own_ret X13 hx hlocks hret (hb hby own_d_jdk_42_method_149_code_57) (by decide) (by decide) ⟨rfl, N13, by rw [e13]; exact ⟨K14, _, _, _, _, _, f16, f15, f17, f18, Or.inr ⟨rfl, rfl, rfl, (by rcases HB with hb | hb | hb | hb <;> first | exact ⟨x0, List.mem_of_getElem? (i := 0) rfl, hb⟩ | exact ⟨x1, List.mem_of_getElem? (i := 1) rfl, hb⟩ | exact ⟨x2, List.mem_of_getElem? (i := 2) rfl, hb⟩ | exact ⟨x3, List.mem_of_getElem? (i := 3) rfl, hb⟩)⟩, (own_c2 hx0 (own_c2 hx1 (own_c2 hx2 (own_c2 hx3 own_c0)))), (Nat.le_of_ble_eq_true rfl)⟩⟩
set_option maxRecDepth 65536 in
set_option maxHeartbeats 40000000 in
theorem own_wd4 (l : Launch) (Z : State) (a0 : Array Value) (hw : ∀ d ∈ tables_1, d.before a0 Z = true) (a1 : Addr) (zc : Int32) (c1 : Addr) (kc : ClassId) (x0 x1 x2 x3 : Int32) (h0 : Heap) (n0 : Nat) (O0 : Old Z n0 h0) (SC : Sta Z Z.heap "java/lang/String" "COMPACT_STRINGS" "Z" (.int zc)) (hzc : ¬ zc = 0) (SA : Sta Z Z.heap "java/lang/StringUTF16" "$assertionsDisabled" "Z" (.int (1 : Int32))) (SH : Sta Z Z.heap "java/lang/StringUTF16" "HI_BYTE_SHIFT" "I" (.int (0 : Int32))) (SL : Sta Z Z.heap "java/lang/StringUTF16" "LO_BYTE_SHIFT" "I" (.int (8 : Int32))) (hx0 : ¬ x0 < 0 ∧ ¬ (65535 : Int32) < x0) (hx1 : ¬ x1 < 0 ∧ ¬ (65535 : Int32) < x1) (hx2 : ¬ x2 < 0 ∧ ¬ (65535 : Int32) < x2) (hx3 : ¬ x3 < 0 ∧ ¬ (65535 : Int32) < x3) (g_a1 : n0 ≤ a1) (E0 : Exa Z h0 a1 "java/lang/String") (F1 : Fld Z h0 a1 "java/lang/String" "value" "[B" .null) (F2 : Fld Z h0 a1 "java/lang/String" "coder" "B" (.int (0 : Int32))) (VC : Arv Z h0 c1 kc .char (4 : Int32) [.int x0, .int x1, .int x2, .int x3] (.int (0 : Int32))) (HB : (255 : Int32) < x0 ∨ (255 : Int32) < x1 ∨ (255 : Int32) < x2 ∨ (255 : Int32) < x3) :
    own_Met l (⟨"java/lang/String", "<init>", "([C)V"⟩ : MethodName) jdk_42_method_3_code 2 none ({ frames := 5, cells := 2, slots := 12, locals := 74 } : Room) Z #[(.ref a1), (.ref c1)] h0 (fun v h L => v = none ∧ Fr n0 L ∧ Keep h0 h [a1] ∧ own_Str Z h a1 [x0, x1, x2, x3]) := by
  refine own_met (plainFor_of_name own_pn_java_lang_String) ?_
  intro p e s m below meth c T0 hx hby hml hZ hown hnm hret hlocks X0 e0 hh0
  have ef : entryFrame m #[(.ref a1), (.ref c1)] 2 = mkF m 0 #[.val (.ref a1), .val (.ref c1)] [] := by first | (simp [entryFrame, mkF, argsToLocals, Value.category]; done) | rfl
  refine own_entry ef ?_
  have N0 := Fr.nil n0
  have K0 := Keep.refl h0 [a1]
  have Z0 : n0 ≤ h0.size := O0.1 ▸ O0.2.1
  refine own_aloadN X0 hx (hb hby own_d_jdk_42_method_3_code_0) rfl rfl rfl ?_
  refine own_aloadN X0 hx (hb hby own_d_jdk_42_method_3_code_1) rfl rfl rfl ?_
  refine own_iconst X0 hx (0 : Int32) (hb hby own_d_jdk_42_method_3_code_2) (by decide) rfl ?_
  refine own_aloadN X0 hx (hb hby own_d_jdk_42_method_3_code_3) rfl rfl rfl ?_
  refine own_arraylength X0 hx hZ e0 VC (hb hby own_d_jdk_42_method_3_code_4) rfl ?_
  refine own_aconst_null X0 hx (hb hby own_d_jdk_42_method_3_code_5) rfl ?_
  refine own_special X0 hx hZ (y := (⟨"java/lang/String", "<init>", "([CIILjava/lang/Void;)V"⟩ : MethodName)) rfl hown (hw _ (List.mem_of_getElem? (i := 17) rfl)) (hw _ (List.mem_of_getElem? (i := 18) rfl)) (hw _ (List.mem_of_getElem? (i := 12) rfl)) (hw _ (List.mem_of_getElem? (i := 20) rfl)) (by decide) e0 (by decide) (W := 0) (by decide) (by decide) (by decide) [(.ref c1), (.int (0 : Int32)), (.int (4 : Int32)), .null] [] (by rw [hml]; rfl) (a := a1) (own_wi4 l Z a0 hw a1 zc c1 _ x0 x1 x2 x3 h0 n0 O0 SC hzc SA SH SL hx0 hx1 hx2 hx3 g_a1 E0 F1 F2 VC HB) own_pd7 rfl rfl rfl (hb hby own_d_jdk_42_method_3_code_6) rfl ?_
  intro v1 T1 L1 X1 hQ1
  obtain ⟨rfl, Nq1, Kq1, Ss1⟩ := hQ1
  have N1 := Fr.app N0 Nq1
  have K2 := K0.trans Kq1 (allS (Or.inl (List.mem_of_getElem? (i := 0) rfl)) all0)
  show own_Ends p e below _ (T1.setTop (mkF m 9 #[.val (.ref a1), .val (.ref c1)] []))
  exact own_ret X1 hx hlocks hret (hb hby own_d_jdk_42_method_3_code_9) (by decide) (by decide) ⟨rfl, N1, K2, Ss1⟩
theorem own_wideOr4 (x0 x1 x2 x3 : Int32) : (¬ (255 : Int32) < x0 ∧ ¬ (255 : Int32) < x1 ∧ ¬ (255 : Int32) < x2 ∧ ¬ (255 : Int32) < x3) ∨ ((255 : Int32) < x0 ∨ (255 : Int32) < x1 ∨ (255 : Int32) < x2 ∨ (255 : Int32) < x3) := by
  by_cases hb0 : (255 : Int32) < x0
  · exact Or.inr (Or.inl hb0)
  by_cases hb1 : (255 : Int32) < x1
  · exact Or.inr (Or.inr (Or.inl hb1))
  by_cases hb2 : (255 : Int32) < x2
  · exact Or.inr (Or.inr (Or.inr (Or.inl hb2)))
  by_cases hb3 : (255 : Int32) < x3
  · exact Or.inr (Or.inr (Or.inr (Or.inr (hb3))))
  exact Or.inl ⟨hb0, hb1, hb2, hb3⟩
set_option maxRecDepth 65536 in
set_option maxHeartbeats 40000000 in
theorem own_nbl5 (l : Launch) (Z : State) (a0 : Array Value) (hw : ∀ d ∈ tables_1, d.before a0 Z = true)  (h0 : Heap) (n0 : Nat)  :
    own_Met l (⟨"java/lang/StringUTF16", "newBytesLength", "(I)I"⟩ : MethodName) jdk_52_method_3_code 1 (some .int) ({ frames := 0, cells := 0, slots := 0, locals := 0 } : Room) Z #[(.int (5 : Int32))] h0 (fun v h L => v = some (.int (10 : Int32)) ∧ Fr n0 L ∧ h = h0) := by
  refine own_met (plainFor_of_name own_pn_java_lang_StringUTF16) ?_
  intro p e s m below meth c T0 hx hby hml hZ hown hnm hret hlocks X0 e0 hh0
  have ef : entryFrame m #[(.int (5 : Int32))] 1 = mkF m 0 #[.val (.int (5 : Int32))] [] := by first | (simp [entryFrame, mkF, argsToLocals, Value.category]; done) | rfl
  refine own_entry ef ?_
  have N0 := Fr.nil n0
  refine own_iloadN X0 hx (hb hby own_d_jdk_52_method_3_code_0) rfl rfl ?_
  refine own_ifT X0 hx (hb hby own_d_jdk_52_method_3_code_1) (by decide) rfl (by decide) ?_
  refine own_iloadN X0 hx (hb hby own_d_jdk_52_method_3_code_12) rfl rfl ?_
  refine own_ldcInt X0 hx hZ hown (hw _ (List.mem_of_getElem? (i := 69) rfl)) (hb hby own_d_jdk_52_method_3_code_13) rfl ?_
  refine own_icmpT X0 hx (hb hby own_d_jdk_52_method_3_code_15) (by decide) rfl (by decide) ?_
  refine own_iloadN X0 hx (hb hby own_d_jdk_52_method_3_code_55) rfl rfl ?_
  refine own_iconst X0 hx (1 : Int32) (hb hby own_d_jdk_52_method_3_code_56) (by decide) rfl ?_
  refine own_ishl X0 hx (hb hby own_d_jdk_52_method_3_code_57) rfl ?_
  rw [show ((5 : Int32) <<< ((1 : Int32) &&& 31)) = (10 : Int32) from by decide]
  exact own_retI X0 hx hlocks hret (hb hby own_d_jdk_52_method_3_code_58) (by decide) (by decide) ⟨rfl, N0, e0⟩
set_option maxRecDepth 65536 in
set_option maxHeartbeats 40000000 in
theorem own_nbf5 (l : Launch) (Z : State) (a0 : Array Value) (hw : ∀ d ∈ tables_1, d.before a0 Z = true)  (h0 : Heap) (n0 : Nat) (O0 : Old Z n0 h0) :
    own_Met l (⟨"java/lang/StringUTF16", "newBytesFor", "(I)[B"⟩ : MethodName) jdk_52_method_2_code 1 (some (.array .byte)) ({ frames := 1, cells := 1, slots := 10, locals := 12 } : Room) Z #[(.int (5 : Int32))] h0 (fun v h L => ∃ (b : Addr) (k : ClassId), v = some (.ref b) ∧ Fr n0 L ∧ Keep h0 h [] ∧ n0 ≤ b ∧ h0.size ≤ b ∧ Arv Z h b k .byte (10 : Int32) [.int (0 : Int32), .int (0 : Int32), .int (0 : Int32), .int (0 : Int32), .int (0 : Int32), .int (0 : Int32), .int (0 : Int32), .int (0 : Int32), .int (0 : Int32), .int (0 : Int32)] (.int (0 : Int32))) := by
  refine own_met (plainFor_of_name own_pn_java_lang_StringUTF16) ?_
  intro p e s m below meth c T0 hx hby hml hZ hown hnm hret hlocks X0 e0 hh0
  have ef : entryFrame m #[(.int (5 : Int32))] 1 = mkF m 0 #[.val (.int (5 : Int32))] [] := by first | (simp [entryFrame, mkF, argsToLocals, Value.category]; done) | rfl
  refine own_entry ef ?_
  have N0 := Fr.nil n0
  have K0 := Keep.refl h0 []
  have Z0 : n0 ≤ h0.size := O0.1 ▸ O0.2.1
  refine own_iloadN X0 hx (hb hby own_d_jdk_52_method_2_code_0) rfl rfl ?_
  refine own_static X0 hx hZ (y := (⟨"java/lang/StringUTF16", "newBytesLength", "(I)I"⟩ : MethodName)) hown (hw _ (List.mem_of_getElem? (i := 66) rfl)) (hw _ (List.mem_of_getElem? (i := 67) rfl)) (hw _ (List.mem_of_getElem? (i := 52) rfl)) (hw _ (List.mem_of_getElem? (i := 68) rfl)) (by decide) e0 (by decide) (W := 0) (by decide) (by decide) (by decide) [(.int (5 : Int32))] [] (by rw [hml]; rfl) (own_nbl5 l Z a0 hw h0 n0) own_pd0 rfl rfl rfl (hb hby own_d_jdk_52_method_2_code_1) rfl ?_
  intro v1 T1 L1 X1 hQ1
  obtain ⟨rfl, Nq1, hh1⟩ := hQ1
  have N1 := Fr.app N0 Nq1
  show own_Ends p e below _ (T1.setTop (mkF m 4 #[.val (.int (5 : Int32))] [(.int (10 : Int32))]))
  refine own_newP X1 hx hZ (aty := .byte) (hw _ (List.mem_of_getElem? (i := 25) rfl)) hh1 (hb hby own_d_jdk_52_method_2_code_4) (by decide) 10 (by decide) (by decide) (by decide) (by decide) rfl ?_
  intro T2 h2 b2 k2 X2 e2 g2 E2 V2q
  have g_b2 : n0 ≤ b2 := Nat.le_trans (own_oz O0) (Nat.le_of_eq g2.symm)
  have sz_b2 : h0.size ≤ b2 := Nat.le_trans K0.1 (Nat.le_of_eq g2.symm)
  have K3 := K0.ext E2
  have V2 : Arv Z h2 b2 k2 .byte (10 : Int32) [(.int (0 : Int32)), (.int (0 : Int32)), (.int (0 : Int32)), (.int (0 : Int32)), (.int (0 : Int32)), (.int (0 : Int32)), (.int (0 : Int32)), (.int (0 : Int32)), (.int (0 : Int32)), (.int (0 : Int32))] (.int (0 : Int32)) := Arv.pad V2q (pad_rep [] (.int (0 : Int32)) 10)
  exact own_retA X2 hx hlocks hret rfl rfl (hb hby own_d_jdk_52_method_2_code_6) (by decide) (by decide) ⟨b2, _, rfl, N1, by rw [e2]; exact ⟨K3, g_b2, sz_b2, V2⟩⟩
set_option maxRecDepth 65536 in
set_option maxHeartbeats 40000000 in
theorem own_put5_0 (l : Launch) (Z : State) (a0 : Array Value) (hw : ∀ d ∈ tables_1, d.before a0 Z = true) (b1 : Addr) (kb : ClassId) (ch y0 y1 y2 y3 y4 y5 y6 y7 y8 y9 : Int32) (h0 : Heap) (n0 : Nat) (O0 : Old Z n0 h0) (SA : Sta Z Z.heap "java/lang/StringUTF16" "$assertionsDisabled" "Z" (.int (1 : Int32))) (SH : Sta Z Z.heap "java/lang/StringUTF16" "HI_BYTE_SHIFT" "I" (.int (0 : Int32))) (SL : Sta Z Z.heap "java/lang/StringUTF16" "LO_BYTE_SHIFT" "I" (.int (8 : Int32))) (g_b1 : n0 ≤ b1) (V0 : Arv Z h0 b1 kb .byte (10 : Int32) [.int y0, .int y1, .int y2, .int y3, .int y4, .int y5, .int y6, .int y7, .int y8, .int y9] (.int (0 : Int32))) :
    own_Met l (⟨"java/lang/StringUTF16", "putChar", "([BII)V"⟩ : MethodName) jdk_52_method_4_code 3 none ({ frames := 0, cells := 0, slots := 0, locals := 0 } : Room) Z #[(.ref b1), (.int (0 : Int32)), (.int ch)] h0 (fun v h L => v = none ∧ Fr n0 L ∧ Keep h0 h [b1] ∧ Arv Z h b1 kb .byte (10 : Int32) [.int (StrChars.lo8 ch), .int (StrChars.hi8 ch), .int y2, .int y3, .int y4, .int y5, .int y6, .int y7, .int y8, .int y9] (.int (0 : Int32))) := by
  refine own_met (plainFor_of_name own_pn_java_lang_StringUTF16) ?_
  intro p e s m below meth c T0 hx hby hml hZ hown hnm hret hlocks X0 e0 hh0
  have ef : entryFrame m #[(.ref b1), (.int (0 : Int32)), (.int ch)] 3 = mkF m 0 #[.val (.ref b1), .val (.int (0 : Int32)), .val (.int ch)] [] := by first | (simp [entryFrame, mkF, argsToLocals, Value.category]; done) | rfl
  refine own_entry ef ?_
  have N0 := Fr.nil n0
  have K0 := Keep.refl h0 [b1]
  have Z0 : n0 ≤ h0.size := O0.1 ▸ O0.2.1
  refine own_getS X0 hx hZ hown (host := "") (Or.inl (hw _ (List.mem_of_getElem? (i := 73) rfl))) Via.refl e0 (SA.ext O0.2) (hb hby own_d_jdk_52_method_4_code_0) rfl ?_
  intro T1 X1 e1
  refine own_ifT X1 hx (hb hby own_d_jdk_52_method_4_code_3) (by decide) rfl (by decide) ?_
  refine own_iloadN X1 hx (hb hby own_d_jdk_52_method_4_code_28) rfl rfl ?_
  refine own_iconst X1 hx (1 : Int32) (hb hby own_d_jdk_52_method_4_code_29) (by decide) rfl ?_
  refine own_ishl X1 hx (hb hby own_d_jdk_52_method_4_code_30) rfl ?_
  rw [show ((0 : Int32) <<< ((1 : Int32) &&& 31)) = (0 : Int32) from by decide]
  refine own_istoreN X1 hx #[.val (.ref b1), .val (.int (0 : Int32)), .val (.int ch)] (hb hby own_d_jdk_52_method_4_code_31) rfl rfl ?_
  refine own_aloadN X1 hx (hb hby own_d_jdk_52_method_4_code_32) rfl rfl rfl ?_
  refine own_iloadN X1 hx (hb hby own_d_jdk_52_method_4_code_33) rfl rfl ?_
  refine own_iinc X1 hx #[.val (.ref b1), .val (.int (1 : Int32)), .val (.int ch)] (hb hby own_d_jdk_52_method_4_code_34) rfl rfl rfl ?_
  refine own_iloadN X1 hx (hb hby own_d_jdk_52_method_4_code_37) rfl rfl ?_
  refine own_getS X1 hx hZ hown (host := "") (Or.inl (hw _ (List.mem_of_getElem? (i := 74) rfl))) Via.refl e1 (SH.ext O0.2) (hb hby own_d_jdk_52_method_4_code_38) rfl ?_
  intro T2 X2 e2
  refine own_ishr X2 hx (hb hby own_d_jdk_52_method_4_code_41) rfl ?_
  refine own_i2b X2 hx (hb hby own_d_jdk_52_method_4_code_42) rfl ?_
  rw [show ((ch >>> ((0 : Int32) &&& 31)).toInt8.toInt32) = (StrChars.lo8 ch) from own_lo0 ch]
  refine own_stB X2 hx hZ e2 V0 ⟨by decide, by decide⟩ 0 rfl (Nat.le_of_ble_eq_true rfl) (own_lo8L ch) N0 g_b1 (hb hby own_d_jdk_52_method_4_code_43) rfl ?_
  intro T3 h3 X3 e3 W3 N3 V3
  have K4 := K0.wr W3 (Or.inl (List.mem_of_getElem? (i := 0) rfl))
  refine own_aloadN X3 hx (hb hby own_d_jdk_52_method_4_code_44) rfl rfl rfl ?_
  refine own_iloadN X3 hx (hb hby own_d_jdk_52_method_4_code_45) rfl rfl ?_
  refine own_iloadN X3 hx (hb hby own_d_jdk_52_method_4_code_46) rfl rfl ?_
  have f5 := (O0.wr W3 g_b1)
  refine own_getS X3 hx hZ hown (host := "") (Or.inl (hw _ (List.mem_of_getElem? (i := 75) rfl))) Via.refl e3 (SL.ext f5.2) (hb hby own_d_jdk_52_method_4_code_47) rfl ?_
  intro T6 X6 e6
  refine own_ishr X6 hx (hb hby own_d_jdk_52_method_4_code_50) rfl ?_
  refine own_i2b X6 hx (hb hby own_d_jdk_52_method_4_code_51) rfl ?_
  rw [show ((ch >>> ((8 : Int32) &&& 31)).toInt8.toInt32) = (StrChars.hi8 ch) from rfl]
  refine own_stB X6 hx hZ e6 V3 ⟨by decide, by decide⟩ 1 rfl (Nat.le_of_ble_eq_true rfl) (own_lo8H ch) N3 g_b1 (hb hby own_d_jdk_52_method_4_code_52) rfl ?_
  intro T7 h7 X7 e7 W7 N7 V7
  have K8 := K4.wr W7 (Or.inl (List.mem_of_getElem? (i := 0) rfl))
  exact own_ret X7 hx hlocks hret (hb hby own_d_jdk_52_method_4_code_53) (by decide) (by decide) ⟨rfl, N7, by rw [e7]; exact ⟨K8, V7⟩⟩
set_option maxRecDepth 65536 in
set_option maxHeartbeats 40000000 in
theorem own_get5_0 (l : Launch) (Z : State) (a0 : Array Value) (hw : ∀ d ∈ tables_1, d.before a0 Z = true) (b1 : Addr) (kb : ClassId) (x0 x1 x2 x3 x4 : Int32) (h0 : Heap) (n0 : Nat) (O0 : Old Z n0 h0) (SA : Sta Z Z.heap "java/lang/StringUTF16" "$assertionsDisabled" "Z" (.int (1 : Int32))) (SH : Sta Z Z.heap "java/lang/StringUTF16" "HI_BYTE_SHIFT" "I" (.int (0 : Int32))) (SL : Sta Z Z.heap "java/lang/StringUTF16" "LO_BYTE_SHIFT" "I" (.int (8 : Int32))) (hx0 : ¬ x0 < 0 ∧ ¬ (65535 : Int32) < x0) (hx1 : ¬ x1 < 0 ∧ ¬ (65535 : Int32) < x1) (hx2 : ¬ x2 < 0 ∧ ¬ (65535 : Int32) < x2) (hx3 : ¬ x3 < 0 ∧ ¬ (65535 : Int32) < x3) (hx4 : ¬ x4 < 0 ∧ ¬ (65535 : Int32) < x4) (V0 : Arv Z h0 b1 kb .byte (10 : Int32) [.int (StrChars.lo8 x0), .int (StrChars.hi8 x0), .int (StrChars.lo8 x1), .int (StrChars.hi8 x1), .int (StrChars.lo8 x2), .int (StrChars.hi8 x2), .int (StrChars.lo8 x3), .int (StrChars.hi8 x3), .int (StrChars.lo8 x4), .int (StrChars.hi8 x4)] (.int (0 : Int32))) :
    own_Met l (⟨"java/lang/StringUTF16", "getChar", "([BI)C"⟩ : MethodName) jdk_52_method_5_code 2 (some .char) ({ frames := 0, cells := 0, slots := 0, locals := 0 } : Room) Z #[(.ref b1), (.int (0 : Int32))] h0 (fun v h L => v = some (.int x0) ∧ Fr n0 L ∧ h = h0) := by
  refine own_met (plainFor_of_name own_pn_java_lang_StringUTF16) ?_
  intro p e s m below meth c T0 hx hby hml hZ hown hnm hret hlocks X0 e0 hh0
  have ef : entryFrame m #[(.ref b1), (.int (0 : Int32))] 2 = mkF m 0 #[.val (.ref b1), .val (.int (0 : Int32))] [] := by first | (simp [entryFrame, mkF, argsToLocals, Value.category]; done) | rfl
  refine own_entry ef ?_
  have N0 := Fr.nil n0
  have K0 := Keep.refl h0 []
  have Z0 : n0 ≤ h0.size := O0.1 ▸ O0.2.1
  refine own_getS X0 hx hZ hown (host := "") (Or.inl (hw _ (List.mem_of_getElem? (i := 73) rfl))) Via.refl e0 (SA.ext O0.2) (hb hby own_d_jdk_52_method_5_code_0) rfl ?_
  intro T1 X1 e1
  refine own_ifT X1 hx (hb hby own_d_jdk_52_method_5_code_3) (by decide) rfl (by decide) ?_
  refine own_iloadN X1 hx (hb hby own_d_jdk_52_method_5_code_28) rfl rfl ?_
  refine own_iconst X1 hx (1 : Int32) (hb hby own_d_jdk_52_method_5_code_29) (by decide) rfl ?_
  refine own_ishl X1 hx (hb hby own_d_jdk_52_method_5_code_30) rfl ?_
  rw [show ((0 : Int32) <<< ((1 : Int32) &&& 31)) = (0 : Int32) from by decide]
  refine own_istoreN X1 hx #[.val (.ref b1), .val (.int (0 : Int32))] (hb hby own_d_jdk_52_method_5_code_31) rfl rfl ?_
  refine own_aloadN X1 hx (hb hby own_d_jdk_52_method_5_code_32) rfl rfl rfl ?_
  refine own_iloadN X1 hx (hb hby own_d_jdk_52_method_5_code_33) rfl rfl ?_
  refine own_iinc X1 hx #[.val (.ref b1), .val (.int (1 : Int32))] (hb hby own_d_jdk_52_method_5_code_34) rfl rfl rfl ?_
  refine own_baloadBytes X1 hx hZ e1 V0 ⟨by decide, by decide⟩ rfl (hb hby own_d_jdk_52_method_5_code_37) rfl ?_
  refine own_sipush X1 hx (255 : Int32) (hb hby own_d_jdk_52_method_5_code_38) (by decide) rfl ?_
  refine own_iand X1 hx (hb hby own_d_jdk_52_method_5_code_41) rfl ?_
  refine own_getS X1 hx hZ hown (host := "") (Or.inl (hw _ (List.mem_of_getElem? (i := 74) rfl))) Via.refl e1 (SH.ext O0.2) (hb hby own_d_jdk_52_method_5_code_42) rfl ?_
  intro T2 X2 e2
  refine own_ishl X2 hx (hb hby own_d_jdk_52_method_5_code_45) rfl ?_
  refine own_aloadN X2 hx (hb hby own_d_jdk_52_method_5_code_46) rfl rfl rfl ?_
  refine own_iloadN X2 hx (hb hby own_d_jdk_52_method_5_code_47) rfl rfl ?_
  refine own_baloadBytes X2 hx hZ e2 V0 ⟨by decide, by decide⟩ rfl (hb hby own_d_jdk_52_method_5_code_48) rfl ?_
  refine own_sipush X2 hx (255 : Int32) (hb hby own_d_jdk_52_method_5_code_49) (by decide) rfl ?_
  refine own_iand X2 hx (hb hby own_d_jdk_52_method_5_code_52) rfl ?_
  refine own_getS X2 hx hZ hown (host := "") (Or.inl (hw _ (List.mem_of_getElem? (i := 75) rfl))) Via.refl e2 (SL.ext O0.2) (hb hby own_d_jdk_52_method_5_code_53) rfl ?_
  intro T3 X3 e3
  refine own_ishl X3 hx (hb hby own_d_jdk_52_method_5_code_56) rfl ?_
  refine own_ior X3 hx (hb hby own_d_jdk_52_method_5_code_57) rfl ?_
  refine own_i2c X3 hx (hb hby own_d_jdk_52_method_5_code_58) rfl ?_
  rw [show (((((StrChars.lo8 x0) &&& (255 : Int32)) <<< ((0 : Int32) &&& 31)) ||| (((StrChars.hi8 x0) &&& (255 : Int32)) <<< ((8 : Int32) &&& 31))).toUInt32.toUInt16.toUInt32.toInt32) = x0 from StrChars.pair_says hx0.1 hx0.2]
  exact own_retN X3 hx hlocks hret (by simp) (hb hby own_d_jdk_52_method_5_code_59) (by decide) (by decide) (own_narC2 hx0) ⟨rfl, N0, e3⟩
set_option maxRecDepth 65536 in
set_option maxHeartbeats 40000000 in
theorem own_put5_1 (l : Launch) (Z : State) (a0 : Array Value) (hw : ∀ d ∈ tables_1, d.before a0 Z = true) (b1 : Addr) (kb : ClassId) (ch y0 y1 y2 y3 y4 y5 y6 y7 y8 y9 : Int32) (h0 : Heap) (n0 : Nat) (O0 : Old Z n0 h0) (SA : Sta Z Z.heap "java/lang/StringUTF16" "$assertionsDisabled" "Z" (.int (1 : Int32))) (SH : Sta Z Z.heap "java/lang/StringUTF16" "HI_BYTE_SHIFT" "I" (.int (0 : Int32))) (SL : Sta Z Z.heap "java/lang/StringUTF16" "LO_BYTE_SHIFT" "I" (.int (8 : Int32))) (g_b1 : n0 ≤ b1) (V0 : Arv Z h0 b1 kb .byte (10 : Int32) [.int y0, .int y1, .int y2, .int y3, .int y4, .int y5, .int y6, .int y7, .int y8, .int y9] (.int (0 : Int32))) :
    own_Met l (⟨"java/lang/StringUTF16", "putChar", "([BII)V"⟩ : MethodName) jdk_52_method_4_code 3 none ({ frames := 0, cells := 0, slots := 0, locals := 0 } : Room) Z #[(.ref b1), (.int (1 : Int32)), (.int ch)] h0 (fun v h L => v = none ∧ Fr n0 L ∧ Keep h0 h [b1] ∧ Arv Z h b1 kb .byte (10 : Int32) [.int y0, .int y1, .int (StrChars.lo8 ch), .int (StrChars.hi8 ch), .int y4, .int y5, .int y6, .int y7, .int y8, .int y9] (.int (0 : Int32))) := by
  refine own_met (plainFor_of_name own_pn_java_lang_StringUTF16) ?_
  intro p e s m below meth c T0 hx hby hml hZ hown hnm hret hlocks X0 e0 hh0
  have ef : entryFrame m #[(.ref b1), (.int (1 : Int32)), (.int ch)] 3 = mkF m 0 #[.val (.ref b1), .val (.int (1 : Int32)), .val (.int ch)] [] := by first | (simp [entryFrame, mkF, argsToLocals, Value.category]; done) | rfl
  refine own_entry ef ?_
  have N0 := Fr.nil n0
  have K0 := Keep.refl h0 [b1]
  have Z0 : n0 ≤ h0.size := O0.1 ▸ O0.2.1
  refine own_getS X0 hx hZ hown (host := "") (Or.inl (hw _ (List.mem_of_getElem? (i := 73) rfl))) Via.refl e0 (SA.ext O0.2) (hb hby own_d_jdk_52_method_4_code_0) rfl ?_
  intro T1 X1 e1
  refine own_ifT X1 hx (hb hby own_d_jdk_52_method_4_code_3) (by decide) rfl (by decide) ?_
  refine own_iloadN X1 hx (hb hby own_d_jdk_52_method_4_code_28) rfl rfl ?_
  refine own_iconst X1 hx (1 : Int32) (hb hby own_d_jdk_52_method_4_code_29) (by decide) rfl ?_
  refine own_ishl X1 hx (hb hby own_d_jdk_52_method_4_code_30) rfl ?_
  rw [show ((1 : Int32) <<< ((1 : Int32) &&& 31)) = (2 : Int32) from by decide]
  refine own_istoreN X1 hx #[.val (.ref b1), .val (.int (2 : Int32)), .val (.int ch)] (hb hby own_d_jdk_52_method_4_code_31) rfl rfl ?_
  refine own_aloadN X1 hx (hb hby own_d_jdk_52_method_4_code_32) rfl rfl rfl ?_
  refine own_iloadN X1 hx (hb hby own_d_jdk_52_method_4_code_33) rfl rfl ?_
  refine own_iinc X1 hx #[.val (.ref b1), .val (.int (3 : Int32)), .val (.int ch)] (hb hby own_d_jdk_52_method_4_code_34) rfl rfl rfl ?_
  refine own_iloadN X1 hx (hb hby own_d_jdk_52_method_4_code_37) rfl rfl ?_
  refine own_getS X1 hx hZ hown (host := "") (Or.inl (hw _ (List.mem_of_getElem? (i := 74) rfl))) Via.refl e1 (SH.ext O0.2) (hb hby own_d_jdk_52_method_4_code_38) rfl ?_
  intro T2 X2 e2
  refine own_ishr X2 hx (hb hby own_d_jdk_52_method_4_code_41) rfl ?_
  refine own_i2b X2 hx (hb hby own_d_jdk_52_method_4_code_42) rfl ?_
  rw [show ((ch >>> ((0 : Int32) &&& 31)).toInt8.toInt32) = (StrChars.lo8 ch) from own_lo0 ch]
  refine own_stB X2 hx hZ e2 V0 ⟨by decide, by decide⟩ 2 rfl (Nat.le_of_ble_eq_true rfl) (own_lo8L ch) N0 g_b1 (hb hby own_d_jdk_52_method_4_code_43) rfl ?_
  intro T3 h3 X3 e3 W3 N3 V3
  have K4 := K0.wr W3 (Or.inl (List.mem_of_getElem? (i := 0) rfl))
  refine own_aloadN X3 hx (hb hby own_d_jdk_52_method_4_code_44) rfl rfl rfl ?_
  refine own_iloadN X3 hx (hb hby own_d_jdk_52_method_4_code_45) rfl rfl ?_
  refine own_iloadN X3 hx (hb hby own_d_jdk_52_method_4_code_46) rfl rfl ?_
  have f5 := (O0.wr W3 g_b1)
  refine own_getS X3 hx hZ hown (host := "") (Or.inl (hw _ (List.mem_of_getElem? (i := 75) rfl))) Via.refl e3 (SL.ext f5.2) (hb hby own_d_jdk_52_method_4_code_47) rfl ?_
  intro T6 X6 e6
  refine own_ishr X6 hx (hb hby own_d_jdk_52_method_4_code_50) rfl ?_
  refine own_i2b X6 hx (hb hby own_d_jdk_52_method_4_code_51) rfl ?_
  rw [show ((ch >>> ((8 : Int32) &&& 31)).toInt8.toInt32) = (StrChars.hi8 ch) from rfl]
  refine own_stB X6 hx hZ e6 V3 ⟨by decide, by decide⟩ 3 rfl (Nat.le_of_ble_eq_true rfl) (own_lo8H ch) N3 g_b1 (hb hby own_d_jdk_52_method_4_code_52) rfl ?_
  intro T7 h7 X7 e7 W7 N7 V7
  have K8 := K4.wr W7 (Or.inl (List.mem_of_getElem? (i := 0) rfl))
  exact own_ret X7 hx hlocks hret (hb hby own_d_jdk_52_method_4_code_53) (by decide) (by decide) ⟨rfl, N7, by rw [e7]; exact ⟨K8, V7⟩⟩
set_option maxRecDepth 65536 in
set_option maxHeartbeats 40000000 in
theorem own_get5_1 (l : Launch) (Z : State) (a0 : Array Value) (hw : ∀ d ∈ tables_1, d.before a0 Z = true) (b1 : Addr) (kb : ClassId) (x0 x1 x2 x3 x4 : Int32) (h0 : Heap) (n0 : Nat) (O0 : Old Z n0 h0) (SA : Sta Z Z.heap "java/lang/StringUTF16" "$assertionsDisabled" "Z" (.int (1 : Int32))) (SH : Sta Z Z.heap "java/lang/StringUTF16" "HI_BYTE_SHIFT" "I" (.int (0 : Int32))) (SL : Sta Z Z.heap "java/lang/StringUTF16" "LO_BYTE_SHIFT" "I" (.int (8 : Int32))) (hx0 : ¬ x0 < 0 ∧ ¬ (65535 : Int32) < x0) (hx1 : ¬ x1 < 0 ∧ ¬ (65535 : Int32) < x1) (hx2 : ¬ x2 < 0 ∧ ¬ (65535 : Int32) < x2) (hx3 : ¬ x3 < 0 ∧ ¬ (65535 : Int32) < x3) (hx4 : ¬ x4 < 0 ∧ ¬ (65535 : Int32) < x4) (V0 : Arv Z h0 b1 kb .byte (10 : Int32) [.int (StrChars.lo8 x0), .int (StrChars.hi8 x0), .int (StrChars.lo8 x1), .int (StrChars.hi8 x1), .int (StrChars.lo8 x2), .int (StrChars.hi8 x2), .int (StrChars.lo8 x3), .int (StrChars.hi8 x3), .int (StrChars.lo8 x4), .int (StrChars.hi8 x4)] (.int (0 : Int32))) :
    own_Met l (⟨"java/lang/StringUTF16", "getChar", "([BI)C"⟩ : MethodName) jdk_52_method_5_code 2 (some .char) ({ frames := 0, cells := 0, slots := 0, locals := 0 } : Room) Z #[(.ref b1), (.int (1 : Int32))] h0 (fun v h L => v = some (.int x1) ∧ Fr n0 L ∧ h = h0) := by
  refine own_met (plainFor_of_name own_pn_java_lang_StringUTF16) ?_
  intro p e s m below meth c T0 hx hby hml hZ hown hnm hret hlocks X0 e0 hh0
  have ef : entryFrame m #[(.ref b1), (.int (1 : Int32))] 2 = mkF m 0 #[.val (.ref b1), .val (.int (1 : Int32))] [] := by first | (simp [entryFrame, mkF, argsToLocals, Value.category]; done) | rfl
  refine own_entry ef ?_
  have N0 := Fr.nil n0
  have K0 := Keep.refl h0 []
  have Z0 : n0 ≤ h0.size := O0.1 ▸ O0.2.1
  refine own_getS X0 hx hZ hown (host := "") (Or.inl (hw _ (List.mem_of_getElem? (i := 73) rfl))) Via.refl e0 (SA.ext O0.2) (hb hby own_d_jdk_52_method_5_code_0) rfl ?_
  intro T1 X1 e1
  refine own_ifT X1 hx (hb hby own_d_jdk_52_method_5_code_3) (by decide) rfl (by decide) ?_
  refine own_iloadN X1 hx (hb hby own_d_jdk_52_method_5_code_28) rfl rfl ?_
  refine own_iconst X1 hx (1 : Int32) (hb hby own_d_jdk_52_method_5_code_29) (by decide) rfl ?_
  refine own_ishl X1 hx (hb hby own_d_jdk_52_method_5_code_30) rfl ?_
  rw [show ((1 : Int32) <<< ((1 : Int32) &&& 31)) = (2 : Int32) from by decide]
  refine own_istoreN X1 hx #[.val (.ref b1), .val (.int (2 : Int32))] (hb hby own_d_jdk_52_method_5_code_31) rfl rfl ?_
  refine own_aloadN X1 hx (hb hby own_d_jdk_52_method_5_code_32) rfl rfl rfl ?_
  refine own_iloadN X1 hx (hb hby own_d_jdk_52_method_5_code_33) rfl rfl ?_
  refine own_iinc X1 hx #[.val (.ref b1), .val (.int (3 : Int32))] (hb hby own_d_jdk_52_method_5_code_34) rfl rfl rfl ?_
  refine own_baloadBytes X1 hx hZ e1 V0 ⟨by decide, by decide⟩ rfl (hb hby own_d_jdk_52_method_5_code_37) rfl ?_
  refine own_sipush X1 hx (255 : Int32) (hb hby own_d_jdk_52_method_5_code_38) (by decide) rfl ?_
  refine own_iand X1 hx (hb hby own_d_jdk_52_method_5_code_41) rfl ?_
  refine own_getS X1 hx hZ hown (host := "") (Or.inl (hw _ (List.mem_of_getElem? (i := 74) rfl))) Via.refl e1 (SH.ext O0.2) (hb hby own_d_jdk_52_method_5_code_42) rfl ?_
  intro T2 X2 e2
  refine own_ishl X2 hx (hb hby own_d_jdk_52_method_5_code_45) rfl ?_
  refine own_aloadN X2 hx (hb hby own_d_jdk_52_method_5_code_46) rfl rfl rfl ?_
  refine own_iloadN X2 hx (hb hby own_d_jdk_52_method_5_code_47) rfl rfl ?_
  refine own_baloadBytes X2 hx hZ e2 V0 ⟨by decide, by decide⟩ rfl (hb hby own_d_jdk_52_method_5_code_48) rfl ?_
  refine own_sipush X2 hx (255 : Int32) (hb hby own_d_jdk_52_method_5_code_49) (by decide) rfl ?_
  refine own_iand X2 hx (hb hby own_d_jdk_52_method_5_code_52) rfl ?_
  refine own_getS X2 hx hZ hown (host := "") (Or.inl (hw _ (List.mem_of_getElem? (i := 75) rfl))) Via.refl e2 (SL.ext O0.2) (hb hby own_d_jdk_52_method_5_code_53) rfl ?_
  intro T3 X3 e3
  refine own_ishl X3 hx (hb hby own_d_jdk_52_method_5_code_56) rfl ?_
  refine own_ior X3 hx (hb hby own_d_jdk_52_method_5_code_57) rfl ?_
  refine own_i2c X3 hx (hb hby own_d_jdk_52_method_5_code_58) rfl ?_
  rw [show (((((StrChars.lo8 x1) &&& (255 : Int32)) <<< ((0 : Int32) &&& 31)) ||| (((StrChars.hi8 x1) &&& (255 : Int32)) <<< ((8 : Int32) &&& 31))).toUInt32.toUInt16.toUInt32.toInt32) = x1 from StrChars.pair_says hx1.1 hx1.2]
  exact own_retN X3 hx hlocks hret (by simp) (hb hby own_d_jdk_52_method_5_code_59) (by decide) (by decide) (own_narC2 hx1) ⟨rfl, N0, e3⟩
set_option maxRecDepth 65536 in
set_option maxHeartbeats 40000000 in
theorem own_put5_2 (l : Launch) (Z : State) (a0 : Array Value) (hw : ∀ d ∈ tables_1, d.before a0 Z = true) (b1 : Addr) (kb : ClassId) (ch y0 y1 y2 y3 y4 y5 y6 y7 y8 y9 : Int32) (h0 : Heap) (n0 : Nat) (O0 : Old Z n0 h0) (SA : Sta Z Z.heap "java/lang/StringUTF16" "$assertionsDisabled" "Z" (.int (1 : Int32))) (SH : Sta Z Z.heap "java/lang/StringUTF16" "HI_BYTE_SHIFT" "I" (.int (0 : Int32))) (SL : Sta Z Z.heap "java/lang/StringUTF16" "LO_BYTE_SHIFT" "I" (.int (8 : Int32))) (g_b1 : n0 ≤ b1) (V0 : Arv Z h0 b1 kb .byte (10 : Int32) [.int y0, .int y1, .int y2, .int y3, .int y4, .int y5, .int y6, .int y7, .int y8, .int y9] (.int (0 : Int32))) :
    own_Met l (⟨"java/lang/StringUTF16", "putChar", "([BII)V"⟩ : MethodName) jdk_52_method_4_code 3 none ({ frames := 0, cells := 0, slots := 0, locals := 0 } : Room) Z #[(.ref b1), (.int (2 : Int32)), (.int ch)] h0 (fun v h L => v = none ∧ Fr n0 L ∧ Keep h0 h [b1] ∧ Arv Z h b1 kb .byte (10 : Int32) [.int y0, .int y1, .int y2, .int y3, .int (StrChars.lo8 ch), .int (StrChars.hi8 ch), .int y6, .int y7, .int y8, .int y9] (.int (0 : Int32))) := by
  refine own_met (plainFor_of_name own_pn_java_lang_StringUTF16) ?_
  intro p e s m below meth c T0 hx hby hml hZ hown hnm hret hlocks X0 e0 hh0
  have ef : entryFrame m #[(.ref b1), (.int (2 : Int32)), (.int ch)] 3 = mkF m 0 #[.val (.ref b1), .val (.int (2 : Int32)), .val (.int ch)] [] := by first | (simp [entryFrame, mkF, argsToLocals, Value.category]; done) | rfl
  refine own_entry ef ?_
  have N0 := Fr.nil n0
  have K0 := Keep.refl h0 [b1]
  have Z0 : n0 ≤ h0.size := O0.1 ▸ O0.2.1
  refine own_getS X0 hx hZ hown (host := "") (Or.inl (hw _ (List.mem_of_getElem? (i := 73) rfl))) Via.refl e0 (SA.ext O0.2) (hb hby own_d_jdk_52_method_4_code_0) rfl ?_
  intro T1 X1 e1
  refine own_ifT X1 hx (hb hby own_d_jdk_52_method_4_code_3) (by decide) rfl (by decide) ?_
  refine own_iloadN X1 hx (hb hby own_d_jdk_52_method_4_code_28) rfl rfl ?_
  refine own_iconst X1 hx (1 : Int32) (hb hby own_d_jdk_52_method_4_code_29) (by decide) rfl ?_
  refine own_ishl X1 hx (hb hby own_d_jdk_52_method_4_code_30) rfl ?_
  rw [show ((2 : Int32) <<< ((1 : Int32) &&& 31)) = (4 : Int32) from by decide]
  refine own_istoreN X1 hx #[.val (.ref b1), .val (.int (4 : Int32)), .val (.int ch)] (hb hby own_d_jdk_52_method_4_code_31) rfl rfl ?_
  refine own_aloadN X1 hx (hb hby own_d_jdk_52_method_4_code_32) rfl rfl rfl ?_
  refine own_iloadN X1 hx (hb hby own_d_jdk_52_method_4_code_33) rfl rfl ?_
  refine own_iinc X1 hx #[.val (.ref b1), .val (.int (5 : Int32)), .val (.int ch)] (hb hby own_d_jdk_52_method_4_code_34) rfl rfl rfl ?_
  refine own_iloadN X1 hx (hb hby own_d_jdk_52_method_4_code_37) rfl rfl ?_
  refine own_getS X1 hx hZ hown (host := "") (Or.inl (hw _ (List.mem_of_getElem? (i := 74) rfl))) Via.refl e1 (SH.ext O0.2) (hb hby own_d_jdk_52_method_4_code_38) rfl ?_
  intro T2 X2 e2
  refine own_ishr X2 hx (hb hby own_d_jdk_52_method_4_code_41) rfl ?_
  refine own_i2b X2 hx (hb hby own_d_jdk_52_method_4_code_42) rfl ?_
  rw [show ((ch >>> ((0 : Int32) &&& 31)).toInt8.toInt32) = (StrChars.lo8 ch) from own_lo0 ch]
  refine own_stB X2 hx hZ e2 V0 ⟨by decide, by decide⟩ 4 rfl (Nat.le_of_ble_eq_true rfl) (own_lo8L ch) N0 g_b1 (hb hby own_d_jdk_52_method_4_code_43) rfl ?_
  intro T3 h3 X3 e3 W3 N3 V3
  have K4 := K0.wr W3 (Or.inl (List.mem_of_getElem? (i := 0) rfl))
  refine own_aloadN X3 hx (hb hby own_d_jdk_52_method_4_code_44) rfl rfl rfl ?_
  refine own_iloadN X3 hx (hb hby own_d_jdk_52_method_4_code_45) rfl rfl ?_
  refine own_iloadN X3 hx (hb hby own_d_jdk_52_method_4_code_46) rfl rfl ?_
  have f5 := (O0.wr W3 g_b1)
  refine own_getS X3 hx hZ hown (host := "") (Or.inl (hw _ (List.mem_of_getElem? (i := 75) rfl))) Via.refl e3 (SL.ext f5.2) (hb hby own_d_jdk_52_method_4_code_47) rfl ?_
  intro T6 X6 e6
  refine own_ishr X6 hx (hb hby own_d_jdk_52_method_4_code_50) rfl ?_
  refine own_i2b X6 hx (hb hby own_d_jdk_52_method_4_code_51) rfl ?_
  rw [show ((ch >>> ((8 : Int32) &&& 31)).toInt8.toInt32) = (StrChars.hi8 ch) from rfl]
  refine own_stB X6 hx hZ e6 V3 ⟨by decide, by decide⟩ 5 rfl (Nat.le_of_ble_eq_true rfl) (own_lo8H ch) N3 g_b1 (hb hby own_d_jdk_52_method_4_code_52) rfl ?_
  intro T7 h7 X7 e7 W7 N7 V7
  have K8 := K4.wr W7 (Or.inl (List.mem_of_getElem? (i := 0) rfl))
  exact own_ret X7 hx hlocks hret (hb hby own_d_jdk_52_method_4_code_53) (by decide) (by decide) ⟨rfl, N7, by rw [e7]; exact ⟨K8, V7⟩⟩
set_option maxRecDepth 65536 in
set_option maxHeartbeats 40000000 in
theorem own_get5_2 (l : Launch) (Z : State) (a0 : Array Value) (hw : ∀ d ∈ tables_1, d.before a0 Z = true) (b1 : Addr) (kb : ClassId) (x0 x1 x2 x3 x4 : Int32) (h0 : Heap) (n0 : Nat) (O0 : Old Z n0 h0) (SA : Sta Z Z.heap "java/lang/StringUTF16" "$assertionsDisabled" "Z" (.int (1 : Int32))) (SH : Sta Z Z.heap "java/lang/StringUTF16" "HI_BYTE_SHIFT" "I" (.int (0 : Int32))) (SL : Sta Z Z.heap "java/lang/StringUTF16" "LO_BYTE_SHIFT" "I" (.int (8 : Int32))) (hx0 : ¬ x0 < 0 ∧ ¬ (65535 : Int32) < x0) (hx1 : ¬ x1 < 0 ∧ ¬ (65535 : Int32) < x1) (hx2 : ¬ x2 < 0 ∧ ¬ (65535 : Int32) < x2) (hx3 : ¬ x3 < 0 ∧ ¬ (65535 : Int32) < x3) (hx4 : ¬ x4 < 0 ∧ ¬ (65535 : Int32) < x4) (V0 : Arv Z h0 b1 kb .byte (10 : Int32) [.int (StrChars.lo8 x0), .int (StrChars.hi8 x0), .int (StrChars.lo8 x1), .int (StrChars.hi8 x1), .int (StrChars.lo8 x2), .int (StrChars.hi8 x2), .int (StrChars.lo8 x3), .int (StrChars.hi8 x3), .int (StrChars.lo8 x4), .int (StrChars.hi8 x4)] (.int (0 : Int32))) :
    own_Met l (⟨"java/lang/StringUTF16", "getChar", "([BI)C"⟩ : MethodName) jdk_52_method_5_code 2 (some .char) ({ frames := 0, cells := 0, slots := 0, locals := 0 } : Room) Z #[(.ref b1), (.int (2 : Int32))] h0 (fun v h L => v = some (.int x2) ∧ Fr n0 L ∧ h = h0) := by
  refine own_met (plainFor_of_name own_pn_java_lang_StringUTF16) ?_
  intro p e s m below meth c T0 hx hby hml hZ hown hnm hret hlocks X0 e0 hh0
  have ef : entryFrame m #[(.ref b1), (.int (2 : Int32))] 2 = mkF m 0 #[.val (.ref b1), .val (.int (2 : Int32))] [] := by first | (simp [entryFrame, mkF, argsToLocals, Value.category]; done) | rfl
  refine own_entry ef ?_
  have N0 := Fr.nil n0
  have K0 := Keep.refl h0 []
  have Z0 : n0 ≤ h0.size := O0.1 ▸ O0.2.1
  refine own_getS X0 hx hZ hown (host := "") (Or.inl (hw _ (List.mem_of_getElem? (i := 73) rfl))) Via.refl e0 (SA.ext O0.2) (hb hby own_d_jdk_52_method_5_code_0) rfl ?_
  intro T1 X1 e1
  refine own_ifT X1 hx (hb hby own_d_jdk_52_method_5_code_3) (by decide) rfl (by decide) ?_
  refine own_iloadN X1 hx (hb hby own_d_jdk_52_method_5_code_28) rfl rfl ?_
  refine own_iconst X1 hx (1 : Int32) (hb hby own_d_jdk_52_method_5_code_29) (by decide) rfl ?_
  refine own_ishl X1 hx (hb hby own_d_jdk_52_method_5_code_30) rfl ?_
  rw [show ((2 : Int32) <<< ((1 : Int32) &&& 31)) = (4 : Int32) from by decide]
  refine own_istoreN X1 hx #[.val (.ref b1), .val (.int (4 : Int32))] (hb hby own_d_jdk_52_method_5_code_31) rfl rfl ?_
  refine own_aloadN X1 hx (hb hby own_d_jdk_52_method_5_code_32) rfl rfl rfl ?_
  refine own_iloadN X1 hx (hb hby own_d_jdk_52_method_5_code_33) rfl rfl ?_
  refine own_iinc X1 hx #[.val (.ref b1), .val (.int (5 : Int32))] (hb hby own_d_jdk_52_method_5_code_34) rfl rfl rfl ?_
  refine own_baloadBytes X1 hx hZ e1 V0 ⟨by decide, by decide⟩ rfl (hb hby own_d_jdk_52_method_5_code_37) rfl ?_
  refine own_sipush X1 hx (255 : Int32) (hb hby own_d_jdk_52_method_5_code_38) (by decide) rfl ?_
  refine own_iand X1 hx (hb hby own_d_jdk_52_method_5_code_41) rfl ?_
  refine own_getS X1 hx hZ hown (host := "") (Or.inl (hw _ (List.mem_of_getElem? (i := 74) rfl))) Via.refl e1 (SH.ext O0.2) (hb hby own_d_jdk_52_method_5_code_42) rfl ?_
  intro T2 X2 e2
  refine own_ishl X2 hx (hb hby own_d_jdk_52_method_5_code_45) rfl ?_
  refine own_aloadN X2 hx (hb hby own_d_jdk_52_method_5_code_46) rfl rfl rfl ?_
  refine own_iloadN X2 hx (hb hby own_d_jdk_52_method_5_code_47) rfl rfl ?_
  refine own_baloadBytes X2 hx hZ e2 V0 ⟨by decide, by decide⟩ rfl (hb hby own_d_jdk_52_method_5_code_48) rfl ?_
  refine own_sipush X2 hx (255 : Int32) (hb hby own_d_jdk_52_method_5_code_49) (by decide) rfl ?_
  refine own_iand X2 hx (hb hby own_d_jdk_52_method_5_code_52) rfl ?_
  refine own_getS X2 hx hZ hown (host := "") (Or.inl (hw _ (List.mem_of_getElem? (i := 75) rfl))) Via.refl e2 (SL.ext O0.2) (hb hby own_d_jdk_52_method_5_code_53) rfl ?_
  intro T3 X3 e3
  refine own_ishl X3 hx (hb hby own_d_jdk_52_method_5_code_56) rfl ?_
  refine own_ior X3 hx (hb hby own_d_jdk_52_method_5_code_57) rfl ?_
  refine own_i2c X3 hx (hb hby own_d_jdk_52_method_5_code_58) rfl ?_
  rw [show (((((StrChars.lo8 x2) &&& (255 : Int32)) <<< ((0 : Int32) &&& 31)) ||| (((StrChars.hi8 x2) &&& (255 : Int32)) <<< ((8 : Int32) &&& 31))).toUInt32.toUInt16.toUInt32.toInt32) = x2 from StrChars.pair_says hx2.1 hx2.2]
  exact own_retN X3 hx hlocks hret (by simp) (hb hby own_d_jdk_52_method_5_code_59) (by decide) (by decide) (own_narC2 hx2) ⟨rfl, N0, e3⟩
set_option maxRecDepth 65536 in
set_option maxHeartbeats 40000000 in
theorem own_put5_3 (l : Launch) (Z : State) (a0 : Array Value) (hw : ∀ d ∈ tables_1, d.before a0 Z = true) (b1 : Addr) (kb : ClassId) (ch y0 y1 y2 y3 y4 y5 y6 y7 y8 y9 : Int32) (h0 : Heap) (n0 : Nat) (O0 : Old Z n0 h0) (SA : Sta Z Z.heap "java/lang/StringUTF16" "$assertionsDisabled" "Z" (.int (1 : Int32))) (SH : Sta Z Z.heap "java/lang/StringUTF16" "HI_BYTE_SHIFT" "I" (.int (0 : Int32))) (SL : Sta Z Z.heap "java/lang/StringUTF16" "LO_BYTE_SHIFT" "I" (.int (8 : Int32))) (g_b1 : n0 ≤ b1) (V0 : Arv Z h0 b1 kb .byte (10 : Int32) [.int y0, .int y1, .int y2, .int y3, .int y4, .int y5, .int y6, .int y7, .int y8, .int y9] (.int (0 : Int32))) :
    own_Met l (⟨"java/lang/StringUTF16", "putChar", "([BII)V"⟩ : MethodName) jdk_52_method_4_code 3 none ({ frames := 0, cells := 0, slots := 0, locals := 0 } : Room) Z #[(.ref b1), (.int (3 : Int32)), (.int ch)] h0 (fun v h L => v = none ∧ Fr n0 L ∧ Keep h0 h [b1] ∧ Arv Z h b1 kb .byte (10 : Int32) [.int y0, .int y1, .int y2, .int y3, .int y4, .int y5, .int (StrChars.lo8 ch), .int (StrChars.hi8 ch), .int y8, .int y9] (.int (0 : Int32))) := by
  refine own_met (plainFor_of_name own_pn_java_lang_StringUTF16) ?_
  intro p e s m below meth c T0 hx hby hml hZ hown hnm hret hlocks X0 e0 hh0
  have ef : entryFrame m #[(.ref b1), (.int (3 : Int32)), (.int ch)] 3 = mkF m 0 #[.val (.ref b1), .val (.int (3 : Int32)), .val (.int ch)] [] := by first | (simp [entryFrame, mkF, argsToLocals, Value.category]; done) | rfl
  refine own_entry ef ?_
  have N0 := Fr.nil n0
  have K0 := Keep.refl h0 [b1]
  have Z0 : n0 ≤ h0.size := O0.1 ▸ O0.2.1
  refine own_getS X0 hx hZ hown (host := "") (Or.inl (hw _ (List.mem_of_getElem? (i := 73) rfl))) Via.refl e0 (SA.ext O0.2) (hb hby own_d_jdk_52_method_4_code_0) rfl ?_
  intro T1 X1 e1
  refine own_ifT X1 hx (hb hby own_d_jdk_52_method_4_code_3) (by decide) rfl (by decide) ?_
  refine own_iloadN X1 hx (hb hby own_d_jdk_52_method_4_code_28) rfl rfl ?_
  refine own_iconst X1 hx (1 : Int32) (hb hby own_d_jdk_52_method_4_code_29) (by decide) rfl ?_
  refine own_ishl X1 hx (hb hby own_d_jdk_52_method_4_code_30) rfl ?_
  rw [show ((3 : Int32) <<< ((1 : Int32) &&& 31)) = (6 : Int32) from by decide]
  refine own_istoreN X1 hx #[.val (.ref b1), .val (.int (6 : Int32)), .val (.int ch)] (hb hby own_d_jdk_52_method_4_code_31) rfl rfl ?_
  refine own_aloadN X1 hx (hb hby own_d_jdk_52_method_4_code_32) rfl rfl rfl ?_
  refine own_iloadN X1 hx (hb hby own_d_jdk_52_method_4_code_33) rfl rfl ?_
  refine own_iinc X1 hx #[.val (.ref b1), .val (.int (7 : Int32)), .val (.int ch)] (hb hby own_d_jdk_52_method_4_code_34) rfl rfl rfl ?_
  refine own_iloadN X1 hx (hb hby own_d_jdk_52_method_4_code_37) rfl rfl ?_
  refine own_getS X1 hx hZ hown (host := "") (Or.inl (hw _ (List.mem_of_getElem? (i := 74) rfl))) Via.refl e1 (SH.ext O0.2) (hb hby own_d_jdk_52_method_4_code_38) rfl ?_
  intro T2 X2 e2
  refine own_ishr X2 hx (hb hby own_d_jdk_52_method_4_code_41) rfl ?_
  refine own_i2b X2 hx (hb hby own_d_jdk_52_method_4_code_42) rfl ?_
  rw [show ((ch >>> ((0 : Int32) &&& 31)).toInt8.toInt32) = (StrChars.lo8 ch) from own_lo0 ch]
  refine own_stB X2 hx hZ e2 V0 ⟨by decide, by decide⟩ 6 rfl (Nat.le_of_ble_eq_true rfl) (own_lo8L ch) N0 g_b1 (hb hby own_d_jdk_52_method_4_code_43) rfl ?_
  intro T3 h3 X3 e3 W3 N3 V3
  have K4 := K0.wr W3 (Or.inl (List.mem_of_getElem? (i := 0) rfl))
  refine own_aloadN X3 hx (hb hby own_d_jdk_52_method_4_code_44) rfl rfl rfl ?_
  refine own_iloadN X3 hx (hb hby own_d_jdk_52_method_4_code_45) rfl rfl ?_
  refine own_iloadN X3 hx (hb hby own_d_jdk_52_method_4_code_46) rfl rfl ?_
  have f5 := (O0.wr W3 g_b1)
  refine own_getS X3 hx hZ hown (host := "") (Or.inl (hw _ (List.mem_of_getElem? (i := 75) rfl))) Via.refl e3 (SL.ext f5.2) (hb hby own_d_jdk_52_method_4_code_47) rfl ?_
  intro T6 X6 e6
  refine own_ishr X6 hx (hb hby own_d_jdk_52_method_4_code_50) rfl ?_
  refine own_i2b X6 hx (hb hby own_d_jdk_52_method_4_code_51) rfl ?_
  rw [show ((ch >>> ((8 : Int32) &&& 31)).toInt8.toInt32) = (StrChars.hi8 ch) from rfl]
  refine own_stB X6 hx hZ e6 V3 ⟨by decide, by decide⟩ 7 rfl (Nat.le_of_ble_eq_true rfl) (own_lo8H ch) N3 g_b1 (hb hby own_d_jdk_52_method_4_code_52) rfl ?_
  intro T7 h7 X7 e7 W7 N7 V7
  have K8 := K4.wr W7 (Or.inl (List.mem_of_getElem? (i := 0) rfl))
  exact own_ret X7 hx hlocks hret (hb hby own_d_jdk_52_method_4_code_53) (by decide) (by decide) ⟨rfl, N7, by rw [e7]; exact ⟨K8, V7⟩⟩
set_option maxRecDepth 65536 in
set_option maxHeartbeats 40000000 in
theorem own_get5_3 (l : Launch) (Z : State) (a0 : Array Value) (hw : ∀ d ∈ tables_1, d.before a0 Z = true) (b1 : Addr) (kb : ClassId) (x0 x1 x2 x3 x4 : Int32) (h0 : Heap) (n0 : Nat) (O0 : Old Z n0 h0) (SA : Sta Z Z.heap "java/lang/StringUTF16" "$assertionsDisabled" "Z" (.int (1 : Int32))) (SH : Sta Z Z.heap "java/lang/StringUTF16" "HI_BYTE_SHIFT" "I" (.int (0 : Int32))) (SL : Sta Z Z.heap "java/lang/StringUTF16" "LO_BYTE_SHIFT" "I" (.int (8 : Int32))) (hx0 : ¬ x0 < 0 ∧ ¬ (65535 : Int32) < x0) (hx1 : ¬ x1 < 0 ∧ ¬ (65535 : Int32) < x1) (hx2 : ¬ x2 < 0 ∧ ¬ (65535 : Int32) < x2) (hx3 : ¬ x3 < 0 ∧ ¬ (65535 : Int32) < x3) (hx4 : ¬ x4 < 0 ∧ ¬ (65535 : Int32) < x4) (V0 : Arv Z h0 b1 kb .byte (10 : Int32) [.int (StrChars.lo8 x0), .int (StrChars.hi8 x0), .int (StrChars.lo8 x1), .int (StrChars.hi8 x1), .int (StrChars.lo8 x2), .int (StrChars.hi8 x2), .int (StrChars.lo8 x3), .int (StrChars.hi8 x3), .int (StrChars.lo8 x4), .int (StrChars.hi8 x4)] (.int (0 : Int32))) :
    own_Met l (⟨"java/lang/StringUTF16", "getChar", "([BI)C"⟩ : MethodName) jdk_52_method_5_code 2 (some .char) ({ frames := 0, cells := 0, slots := 0, locals := 0 } : Room) Z #[(.ref b1), (.int (3 : Int32))] h0 (fun v h L => v = some (.int x3) ∧ Fr n0 L ∧ h = h0) := by
  refine own_met (plainFor_of_name own_pn_java_lang_StringUTF16) ?_
  intro p e s m below meth c T0 hx hby hml hZ hown hnm hret hlocks X0 e0 hh0
  have ef : entryFrame m #[(.ref b1), (.int (3 : Int32))] 2 = mkF m 0 #[.val (.ref b1), .val (.int (3 : Int32))] [] := by first | (simp [entryFrame, mkF, argsToLocals, Value.category]; done) | rfl
  refine own_entry ef ?_
  have N0 := Fr.nil n0
  have K0 := Keep.refl h0 []
  have Z0 : n0 ≤ h0.size := O0.1 ▸ O0.2.1
  refine own_getS X0 hx hZ hown (host := "") (Or.inl (hw _ (List.mem_of_getElem? (i := 73) rfl))) Via.refl e0 (SA.ext O0.2) (hb hby own_d_jdk_52_method_5_code_0) rfl ?_
  intro T1 X1 e1
  refine own_ifT X1 hx (hb hby own_d_jdk_52_method_5_code_3) (by decide) rfl (by decide) ?_
  refine own_iloadN X1 hx (hb hby own_d_jdk_52_method_5_code_28) rfl rfl ?_
  refine own_iconst X1 hx (1 : Int32) (hb hby own_d_jdk_52_method_5_code_29) (by decide) rfl ?_
  refine own_ishl X1 hx (hb hby own_d_jdk_52_method_5_code_30) rfl ?_
  rw [show ((3 : Int32) <<< ((1 : Int32) &&& 31)) = (6 : Int32) from by decide]
  refine own_istoreN X1 hx #[.val (.ref b1), .val (.int (6 : Int32))] (hb hby own_d_jdk_52_method_5_code_31) rfl rfl ?_
  refine own_aloadN X1 hx (hb hby own_d_jdk_52_method_5_code_32) rfl rfl rfl ?_
  refine own_iloadN X1 hx (hb hby own_d_jdk_52_method_5_code_33) rfl rfl ?_
  refine own_iinc X1 hx #[.val (.ref b1), .val (.int (7 : Int32))] (hb hby own_d_jdk_52_method_5_code_34) rfl rfl rfl ?_
  refine own_baloadBytes X1 hx hZ e1 V0 ⟨by decide, by decide⟩ rfl (hb hby own_d_jdk_52_method_5_code_37) rfl ?_
  refine own_sipush X1 hx (255 : Int32) (hb hby own_d_jdk_52_method_5_code_38) (by decide) rfl ?_
  refine own_iand X1 hx (hb hby own_d_jdk_52_method_5_code_41) rfl ?_
  refine own_getS X1 hx hZ hown (host := "") (Or.inl (hw _ (List.mem_of_getElem? (i := 74) rfl))) Via.refl e1 (SH.ext O0.2) (hb hby own_d_jdk_52_method_5_code_42) rfl ?_
  intro T2 X2 e2
  refine own_ishl X2 hx (hb hby own_d_jdk_52_method_5_code_45) rfl ?_
  refine own_aloadN X2 hx (hb hby own_d_jdk_52_method_5_code_46) rfl rfl rfl ?_
  refine own_iloadN X2 hx (hb hby own_d_jdk_52_method_5_code_47) rfl rfl ?_
  refine own_baloadBytes X2 hx hZ e2 V0 ⟨by decide, by decide⟩ rfl (hb hby own_d_jdk_52_method_5_code_48) rfl ?_
  refine own_sipush X2 hx (255 : Int32) (hb hby own_d_jdk_52_method_5_code_49) (by decide) rfl ?_
  refine own_iand X2 hx (hb hby own_d_jdk_52_method_5_code_52) rfl ?_
  refine own_getS X2 hx hZ hown (host := "") (Or.inl (hw _ (List.mem_of_getElem? (i := 75) rfl))) Via.refl e2 (SL.ext O0.2) (hb hby own_d_jdk_52_method_5_code_53) rfl ?_
  intro T3 X3 e3
  refine own_ishl X3 hx (hb hby own_d_jdk_52_method_5_code_56) rfl ?_
  refine own_ior X3 hx (hb hby own_d_jdk_52_method_5_code_57) rfl ?_
  refine own_i2c X3 hx (hb hby own_d_jdk_52_method_5_code_58) rfl ?_
  rw [show (((((StrChars.lo8 x3) &&& (255 : Int32)) <<< ((0 : Int32) &&& 31)) ||| (((StrChars.hi8 x3) &&& (255 : Int32)) <<< ((8 : Int32) &&& 31))).toUInt32.toUInt16.toUInt32.toInt32) = x3 from StrChars.pair_says hx3.1 hx3.2]
  exact own_retN X3 hx hlocks hret (by simp) (hb hby own_d_jdk_52_method_5_code_59) (by decide) (by decide) (own_narC2 hx3) ⟨rfl, N0, e3⟩
set_option maxRecDepth 65536 in
set_option maxHeartbeats 40000000 in
theorem own_put5_4 (l : Launch) (Z : State) (a0 : Array Value) (hw : ∀ d ∈ tables_1, d.before a0 Z = true) (b1 : Addr) (kb : ClassId) (ch y0 y1 y2 y3 y4 y5 y6 y7 y8 y9 : Int32) (h0 : Heap) (n0 : Nat) (O0 : Old Z n0 h0) (SA : Sta Z Z.heap "java/lang/StringUTF16" "$assertionsDisabled" "Z" (.int (1 : Int32))) (SH : Sta Z Z.heap "java/lang/StringUTF16" "HI_BYTE_SHIFT" "I" (.int (0 : Int32))) (SL : Sta Z Z.heap "java/lang/StringUTF16" "LO_BYTE_SHIFT" "I" (.int (8 : Int32))) (g_b1 : n0 ≤ b1) (V0 : Arv Z h0 b1 kb .byte (10 : Int32) [.int y0, .int y1, .int y2, .int y3, .int y4, .int y5, .int y6, .int y7, .int y8, .int y9] (.int (0 : Int32))) :
    own_Met l (⟨"java/lang/StringUTF16", "putChar", "([BII)V"⟩ : MethodName) jdk_52_method_4_code 3 none ({ frames := 0, cells := 0, slots := 0, locals := 0 } : Room) Z #[(.ref b1), (.int (4 : Int32)), (.int ch)] h0 (fun v h L => v = none ∧ Fr n0 L ∧ Keep h0 h [b1] ∧ Arv Z h b1 kb .byte (10 : Int32) [.int y0, .int y1, .int y2, .int y3, .int y4, .int y5, .int y6, .int y7, .int (StrChars.lo8 ch), .int (StrChars.hi8 ch)] (.int (0 : Int32))) := by
  refine own_met (plainFor_of_name own_pn_java_lang_StringUTF16) ?_
  intro p e s m below meth c T0 hx hby hml hZ hown hnm hret hlocks X0 e0 hh0
  have ef : entryFrame m #[(.ref b1), (.int (4 : Int32)), (.int ch)] 3 = mkF m 0 #[.val (.ref b1), .val (.int (4 : Int32)), .val (.int ch)] [] := by first | (simp [entryFrame, mkF, argsToLocals, Value.category]; done) | rfl
  refine own_entry ef ?_
  have N0 := Fr.nil n0
  have K0 := Keep.refl h0 [b1]
  have Z0 : n0 ≤ h0.size := O0.1 ▸ O0.2.1
  refine own_getS X0 hx hZ hown (host := "") (Or.inl (hw _ (List.mem_of_getElem? (i := 73) rfl))) Via.refl e0 (SA.ext O0.2) (hb hby own_d_jdk_52_method_4_code_0) rfl ?_
  intro T1 X1 e1
  refine own_ifT X1 hx (hb hby own_d_jdk_52_method_4_code_3) (by decide) rfl (by decide) ?_
  refine own_iloadN X1 hx (hb hby own_d_jdk_52_method_4_code_28) rfl rfl ?_
  refine own_iconst X1 hx (1 : Int32) (hb hby own_d_jdk_52_method_4_code_29) (by decide) rfl ?_
  refine own_ishl X1 hx (hb hby own_d_jdk_52_method_4_code_30) rfl ?_
  rw [show ((4 : Int32) <<< ((1 : Int32) &&& 31)) = (8 : Int32) from by decide]
  refine own_istoreN X1 hx #[.val (.ref b1), .val (.int (8 : Int32)), .val (.int ch)] (hb hby own_d_jdk_52_method_4_code_31) rfl rfl ?_
  refine own_aloadN X1 hx (hb hby own_d_jdk_52_method_4_code_32) rfl rfl rfl ?_
  refine own_iloadN X1 hx (hb hby own_d_jdk_52_method_4_code_33) rfl rfl ?_
  refine own_iinc X1 hx #[.val (.ref b1), .val (.int (9 : Int32)), .val (.int ch)] (hb hby own_d_jdk_52_method_4_code_34) rfl rfl rfl ?_
  refine own_iloadN X1 hx (hb hby own_d_jdk_52_method_4_code_37) rfl rfl ?_
  refine own_getS X1 hx hZ hown (host := "") (Or.inl (hw _ (List.mem_of_getElem? (i := 74) rfl))) Via.refl e1 (SH.ext O0.2) (hb hby own_d_jdk_52_method_4_code_38) rfl ?_
  intro T2 X2 e2
  refine own_ishr X2 hx (hb hby own_d_jdk_52_method_4_code_41) rfl ?_
  refine own_i2b X2 hx (hb hby own_d_jdk_52_method_4_code_42) rfl ?_
  rw [show ((ch >>> ((0 : Int32) &&& 31)).toInt8.toInt32) = (StrChars.lo8 ch) from own_lo0 ch]
  refine own_stB X2 hx hZ e2 V0 ⟨by decide, by decide⟩ 8 rfl (Nat.le_of_ble_eq_true rfl) (own_lo8L ch) N0 g_b1 (hb hby own_d_jdk_52_method_4_code_43) rfl ?_
  intro T3 h3 X3 e3 W3 N3 V3
  have K4 := K0.wr W3 (Or.inl (List.mem_of_getElem? (i := 0) rfl))
  refine own_aloadN X3 hx (hb hby own_d_jdk_52_method_4_code_44) rfl rfl rfl ?_
  refine own_iloadN X3 hx (hb hby own_d_jdk_52_method_4_code_45) rfl rfl ?_
  refine own_iloadN X3 hx (hb hby own_d_jdk_52_method_4_code_46) rfl rfl ?_
  have f5 := (O0.wr W3 g_b1)
  refine own_getS X3 hx hZ hown (host := "") (Or.inl (hw _ (List.mem_of_getElem? (i := 75) rfl))) Via.refl e3 (SL.ext f5.2) (hb hby own_d_jdk_52_method_4_code_47) rfl ?_
  intro T6 X6 e6
  refine own_ishr X6 hx (hb hby own_d_jdk_52_method_4_code_50) rfl ?_
  refine own_i2b X6 hx (hb hby own_d_jdk_52_method_4_code_51) rfl ?_
  rw [show ((ch >>> ((8 : Int32) &&& 31)).toInt8.toInt32) = (StrChars.hi8 ch) from rfl]
  refine own_stB X6 hx hZ e6 V3 ⟨by decide, by decide⟩ 9 rfl (Nat.le_of_ble_eq_true rfl) (own_lo8H ch) N3 g_b1 (hb hby own_d_jdk_52_method_4_code_52) rfl ?_
  intro T7 h7 X7 e7 W7 N7 V7
  have K8 := K4.wr W7 (Or.inl (List.mem_of_getElem? (i := 0) rfl))
  exact own_ret X7 hx hlocks hret (hb hby own_d_jdk_52_method_4_code_53) (by decide) (by decide) ⟨rfl, N7, by rw [e7]; exact ⟨K8, V7⟩⟩
set_option maxRecDepth 65536 in
set_option maxHeartbeats 40000000 in
theorem own_get5_4 (l : Launch) (Z : State) (a0 : Array Value) (hw : ∀ d ∈ tables_1, d.before a0 Z = true) (b1 : Addr) (kb : ClassId) (x0 x1 x2 x3 x4 : Int32) (h0 : Heap) (n0 : Nat) (O0 : Old Z n0 h0) (SA : Sta Z Z.heap "java/lang/StringUTF16" "$assertionsDisabled" "Z" (.int (1 : Int32))) (SH : Sta Z Z.heap "java/lang/StringUTF16" "HI_BYTE_SHIFT" "I" (.int (0 : Int32))) (SL : Sta Z Z.heap "java/lang/StringUTF16" "LO_BYTE_SHIFT" "I" (.int (8 : Int32))) (hx0 : ¬ x0 < 0 ∧ ¬ (65535 : Int32) < x0) (hx1 : ¬ x1 < 0 ∧ ¬ (65535 : Int32) < x1) (hx2 : ¬ x2 < 0 ∧ ¬ (65535 : Int32) < x2) (hx3 : ¬ x3 < 0 ∧ ¬ (65535 : Int32) < x3) (hx4 : ¬ x4 < 0 ∧ ¬ (65535 : Int32) < x4) (V0 : Arv Z h0 b1 kb .byte (10 : Int32) [.int (StrChars.lo8 x0), .int (StrChars.hi8 x0), .int (StrChars.lo8 x1), .int (StrChars.hi8 x1), .int (StrChars.lo8 x2), .int (StrChars.hi8 x2), .int (StrChars.lo8 x3), .int (StrChars.hi8 x3), .int (StrChars.lo8 x4), .int (StrChars.hi8 x4)] (.int (0 : Int32))) :
    own_Met l (⟨"java/lang/StringUTF16", "getChar", "([BI)C"⟩ : MethodName) jdk_52_method_5_code 2 (some .char) ({ frames := 0, cells := 0, slots := 0, locals := 0 } : Room) Z #[(.ref b1), (.int (4 : Int32))] h0 (fun v h L => v = some (.int x4) ∧ Fr n0 L ∧ h = h0) := by
  refine own_met (plainFor_of_name own_pn_java_lang_StringUTF16) ?_
  intro p e s m below meth c T0 hx hby hml hZ hown hnm hret hlocks X0 e0 hh0
  have ef : entryFrame m #[(.ref b1), (.int (4 : Int32))] 2 = mkF m 0 #[.val (.ref b1), .val (.int (4 : Int32))] [] := by first | (simp [entryFrame, mkF, argsToLocals, Value.category]; done) | rfl
  refine own_entry ef ?_
  have N0 := Fr.nil n0
  have K0 := Keep.refl h0 []
  have Z0 : n0 ≤ h0.size := O0.1 ▸ O0.2.1
  refine own_getS X0 hx hZ hown (host := "") (Or.inl (hw _ (List.mem_of_getElem? (i := 73) rfl))) Via.refl e0 (SA.ext O0.2) (hb hby own_d_jdk_52_method_5_code_0) rfl ?_
  intro T1 X1 e1
  refine own_ifT X1 hx (hb hby own_d_jdk_52_method_5_code_3) (by decide) rfl (by decide) ?_
  refine own_iloadN X1 hx (hb hby own_d_jdk_52_method_5_code_28) rfl rfl ?_
  refine own_iconst X1 hx (1 : Int32) (hb hby own_d_jdk_52_method_5_code_29) (by decide) rfl ?_
  refine own_ishl X1 hx (hb hby own_d_jdk_52_method_5_code_30) rfl ?_
  rw [show ((4 : Int32) <<< ((1 : Int32) &&& 31)) = (8 : Int32) from by decide]
  refine own_istoreN X1 hx #[.val (.ref b1), .val (.int (8 : Int32))] (hb hby own_d_jdk_52_method_5_code_31) rfl rfl ?_
  refine own_aloadN X1 hx (hb hby own_d_jdk_52_method_5_code_32) rfl rfl rfl ?_
  refine own_iloadN X1 hx (hb hby own_d_jdk_52_method_5_code_33) rfl rfl ?_
  refine own_iinc X1 hx #[.val (.ref b1), .val (.int (9 : Int32))] (hb hby own_d_jdk_52_method_5_code_34) rfl rfl rfl ?_
  refine own_baloadBytes X1 hx hZ e1 V0 ⟨by decide, by decide⟩ rfl (hb hby own_d_jdk_52_method_5_code_37) rfl ?_
  refine own_sipush X1 hx (255 : Int32) (hb hby own_d_jdk_52_method_5_code_38) (by decide) rfl ?_
  refine own_iand X1 hx (hb hby own_d_jdk_52_method_5_code_41) rfl ?_
  refine own_getS X1 hx hZ hown (host := "") (Or.inl (hw _ (List.mem_of_getElem? (i := 74) rfl))) Via.refl e1 (SH.ext O0.2) (hb hby own_d_jdk_52_method_5_code_42) rfl ?_
  intro T2 X2 e2
  refine own_ishl X2 hx (hb hby own_d_jdk_52_method_5_code_45) rfl ?_
  refine own_aloadN X2 hx (hb hby own_d_jdk_52_method_5_code_46) rfl rfl rfl ?_
  refine own_iloadN X2 hx (hb hby own_d_jdk_52_method_5_code_47) rfl rfl ?_
  refine own_baloadBytes X2 hx hZ e2 V0 ⟨by decide, by decide⟩ rfl (hb hby own_d_jdk_52_method_5_code_48) rfl ?_
  refine own_sipush X2 hx (255 : Int32) (hb hby own_d_jdk_52_method_5_code_49) (by decide) rfl ?_
  refine own_iand X2 hx (hb hby own_d_jdk_52_method_5_code_52) rfl ?_
  refine own_getS X2 hx hZ hown (host := "") (Or.inl (hw _ (List.mem_of_getElem? (i := 75) rfl))) Via.refl e2 (SL.ext O0.2) (hb hby own_d_jdk_52_method_5_code_53) rfl ?_
  intro T3 X3 e3
  refine own_ishl X3 hx (hb hby own_d_jdk_52_method_5_code_56) rfl ?_
  refine own_ior X3 hx (hb hby own_d_jdk_52_method_5_code_57) rfl ?_
  refine own_i2c X3 hx (hb hby own_d_jdk_52_method_5_code_58) rfl ?_
  rw [show (((((StrChars.lo8 x4) &&& (255 : Int32)) <<< ((0 : Int32) &&& 31)) ||| (((StrChars.hi8 x4) &&& (255 : Int32)) <<< ((8 : Int32) &&& 31))).toUInt32.toUInt16.toUInt32.toInt32) = x4 from StrChars.pair_says hx4.1 hx4.2]
  exact own_retN X3 hx hlocks hret (by simp) (hb hby own_d_jdk_52_method_5_code_59) (by decide) (by decide) (own_narC2 hx4) ⟨rfl, N0, e3⟩
set_option maxRecDepth 65536 in
set_option maxHeartbeats 40000000 in
theorem own_tob5 (l : Launch) (Z : State) (a0 : Array Value) (hw : ∀ d ∈ tables_1, d.before a0 Z = true) (c1 : Addr) (kc : ClassId) (x0 x1 x2 x3 x4 : Int32) (h0 : Heap) (n0 : Nat) (O0 : Old Z n0 h0) (SA : Sta Z Z.heap "java/lang/StringUTF16" "$assertionsDisabled" "Z" (.int (1 : Int32))) (SH : Sta Z Z.heap "java/lang/StringUTF16" "HI_BYTE_SHIFT" "I" (.int (0 : Int32))) (SL : Sta Z Z.heap "java/lang/StringUTF16" "LO_BYTE_SHIFT" "I" (.int (8 : Int32))) (VC : Arv Z h0 c1 kc .char (5 : Int32) [.int x0, .int x1, .int x2, .int x3, .int x4] (.int (0 : Int32))) :
    own_Met l (⟨"java/lang/StringUTF16", "toBytes", "([CII)[B"⟩ : MethodName) jdk_52_method_14_code 5 (some (.array .byte)) ({ frames := 2, cells := 1, slots := 10, locals := 24 } : Room) Z #[(.ref c1), (.int (0 : Int32)), (.int (5 : Int32))] h0 (fun v h L => ∃ (b : Addr) (k : ClassId), v = some (.ref b) ∧ Fr n0 L ∧ Keep h0 h [] ∧ n0 ≤ b ∧ h0.size ≤ b ∧ Arv Z h b k .byte (10 : Int32) [.int (StrChars.lo8 x0), .int (StrChars.hi8 x0), .int (StrChars.lo8 x1), .int (StrChars.hi8 x1), .int (StrChars.lo8 x2), .int (StrChars.hi8 x2), .int (StrChars.lo8 x3), .int (StrChars.hi8 x3), .int (StrChars.lo8 x4), .int (StrChars.hi8 x4)] (.int (0 : Int32))) := by
  refine own_met (plainFor_of_name own_pn_java_lang_StringUTF16) ?_
  intro p e s m below meth c T0 hx hby hml hZ hown hnm hret hlocks X0 e0 hh0
  have ef : entryFrame m #[(.ref c1), (.int (0 : Int32)), (.int (5 : Int32))] 5 = mkF m 0 #[.val (.ref c1), .val (.int (0 : Int32)), .val (.int (5 : Int32)), .unset, .unset] [] := by first | (simp [entryFrame, mkF, argsToLocals, Value.category]; done) | rfl
  refine own_entry ef ?_
  have N0 := Fr.nil n0
  have K0 := Keep.refl h0 []
  have Z0 : n0 ≤ h0.size := O0.1 ▸ O0.2.1
  refine own_iloadN X0 hx (hb hby own_d_jdk_52_method_14_code_0) rfl rfl ?_
  refine own_static X0 hx hZ (y := (⟨"java/lang/StringUTF16", "newBytesFor", "(I)[B"⟩ : MethodName)) hown (hw _ (List.mem_of_getElem? (i := 63) rfl)) (hw _ (List.mem_of_getElem? (i := 64) rfl)) (hw _ (List.mem_of_getElem? (i := 52) rfl)) (hw _ (List.mem_of_getElem? (i := 65) rfl)) (by decide) e0 (by decide) (W := 0) (by decide) (by decide) (by decide) [(.int (5 : Int32))] [] (by rw [hml]; rfl) (own_nbf5 l Z a0 hw h0 n0 O0) own_pd1 rfl rfl rfl (hb hby own_d_jdk_52_method_14_code_1) rfl ?_
  intro v1 T1 L1 X1 hQ1
  obtain ⟨b1, k1, rfl, Nq1, Kq1, g_b1, sz_b1, V1⟩ := hQ1
  have sz_b1 := Nat.le_trans K0.1 sz_b1
  have N1 := Fr.app N0 Nq1
  have K2 := K0.trans Kq1 all0
  have f3 := (VC.keep Kq1 nin0)
  show own_Ends p e below _ (T1.setTop (mkF m 4 #[.val (.ref c1), .val (.int (0 : Int32)), .val (.int (5 : Int32)), .unset, .unset] [(.ref b1)]))
  refine own_astoreN X1 hx #[.val (.ref c1), .val (.int (0 : Int32)), .val (.int (5 : Int32)), .val (.ref b1), .unset] (hb hby own_d_jdk_52_method_14_code_4) rfl rfl rfl ?_
  refine own_iconst X1 hx (0 : Int32) (hb hby own_d_jdk_52_method_14_code_5) (by decide) rfl ?_
  refine own_istore X1 hx #[.val (.ref c1), .val (.int (0 : Int32)), .val (.int (5 : Int32)), .val (.ref b1), .val (.int (0 : Int32))] (hb hby own_d_jdk_52_method_14_code_6) rfl rfl ?_
  refine own_iload X1 hx (hb hby own_d_jdk_52_method_14_code_8) rfl rfl ?_
  refine own_iloadN X1 hx (hb hby own_d_jdk_52_method_14_code_10) rfl rfl ?_
  refine own_icmpF X1 hx (hb hby own_d_jdk_52_method_14_code_11) rfl (by decide) ?_
  refine own_aloadN X1 hx (hb hby own_d_jdk_52_method_14_code_14) rfl rfl rfl ?_
  refine own_iload X1 hx (hb hby own_d_jdk_52_method_14_code_15) rfl rfl ?_
  refine own_aloadN X1 hx (hb hby own_d_jdk_52_method_14_code_17) rfl rfl rfl ?_
  refine own_iloadN X1 hx (hb hby own_d_jdk_52_method_14_code_18) rfl rfl ?_
  refine own_caload X1 hx hZ rfl f3 ⟨by decide, by decide⟩ rfl (hb hby own_d_jdk_52_method_14_code_19) rfl ?_
  have f4 := (O0.keep Kq1 all0)
  refine own_static X1 hx hZ (y := (⟨"java/lang/StringUTF16", "putChar", "([BII)V"⟩ : MethodName)) hown (hw _ (List.mem_of_getElem? (i := 70) rfl)) (hw _ (List.mem_of_getElem? (i := 71) rfl)) (hw _ (List.mem_of_getElem? (i := 52) rfl)) (hw _ (List.mem_of_getElem? (i := 72) rfl)) (by decide) rfl (by decide) (W := 0) (by decide) (by decide) (by decide) [(.ref b1), (.int (0 : Int32)), (.int x0)] [] (by rw [hml]; rfl) (own_put5_0 l Z a0 hw b1 _ x0 (0 : Int32) (0 : Int32) (0 : Int32) (0 : Int32) (0 : Int32) (0 : Int32) (0 : Int32) (0 : Int32) (0 : Int32) (0 : Int32) T1.heap n0 f4 SA SH SL g_b1 V1) own_pd2 rfl rfl rfl (hb hby own_d_jdk_52_method_14_code_20) rfl ?_
  intro v5 T5 L5 X5 hQ5
  obtain ⟨rfl, Nq5, Kq5, V5⟩ := hQ5
  have N5 := Fr.app N1 Nq5
  have K6 := K2.trans Kq5 (allS (Or.inr sz_b1) all0)
  show own_Ends p e below _ (T5.setTop (mkF m 23 #[.val (.ref c1), .val (.int (0 : Int32)), .val (.int (5 : Int32)), .val (.ref b1), .val (.int (0 : Int32))] []))
  refine own_iinc X5 hx #[.val (.ref c1), .val (.int (1 : Int32)), .val (.int (5 : Int32)), .val (.ref b1), .val (.int (0 : Int32))] (hb hby own_d_jdk_52_method_14_code_23) rfl rfl rfl ?_
  refine own_iinc X5 hx #[.val (.ref c1), .val (.int (1 : Int32)), .val (.int (5 : Int32)), .val (.ref b1), .val (.int (1 : Int32))] (hb hby own_d_jdk_52_method_14_code_26) rfl rfl rfl ?_
  refine own_goto X5 hx (hb hby own_d_jdk_52_method_14_code_29) (by decide) rfl ?_
  refine own_iload X5 hx (hb hby own_d_jdk_52_method_14_code_8) rfl rfl ?_
  refine own_iloadN X5 hx (hb hby own_d_jdk_52_method_14_code_10) rfl rfl ?_
  refine own_icmpF X5 hx (hb hby own_d_jdk_52_method_14_code_11) rfl (by decide) ?_
  refine own_aloadN X5 hx (hb hby own_d_jdk_52_method_14_code_14) rfl rfl rfl ?_
  refine own_iload X5 hx (hb hby own_d_jdk_52_method_14_code_15) rfl rfl ?_
  refine own_aloadN X5 hx (hb hby own_d_jdk_52_method_14_code_17) rfl rfl rfl ?_
  refine own_iloadN X5 hx (hb hby own_d_jdk_52_method_14_code_18) rfl rfl ?_
  have f7 := (f3.keep Kq5 (ninS (own_neV f3 V1 (by decide)) nin0))
  refine own_caload X5 hx hZ rfl f7 ⟨by decide, by decide⟩ rfl (hb hby own_d_jdk_52_method_14_code_19) rfl ?_
  have f8 := (f4.keep Kq5 (allS g_b1 all0))
  refine own_static X5 hx hZ (y := (⟨"java/lang/StringUTF16", "putChar", "([BII)V"⟩ : MethodName)) hown (hw _ (List.mem_of_getElem? (i := 70) rfl)) (hw _ (List.mem_of_getElem? (i := 71) rfl)) (hw _ (List.mem_of_getElem? (i := 52) rfl)) (hw _ (List.mem_of_getElem? (i := 72) rfl)) (by decide) rfl (by decide) (W := 0) (by decide) (by decide) (by decide) [(.ref b1), (.int (1 : Int32)), (.int x1)] [] (by rw [hml]; rfl) (own_put5_1 l Z a0 hw b1 _ x1 (StrChars.lo8 x0) (StrChars.hi8 x0) (0 : Int32) (0 : Int32) (0 : Int32) (0 : Int32) (0 : Int32) (0 : Int32) (0 : Int32) (0 : Int32) T5.heap n0 f8 SA SH SL g_b1 V5) own_pd2 rfl rfl rfl (hb hby own_d_jdk_52_method_14_code_20) rfl ?_
  intro v9 T9 L9 X9 hQ9
  obtain ⟨rfl, Nq9, Kq9, V9⟩ := hQ9
  have N9 := Fr.app N5 Nq9
  have K10 := K6.trans Kq9 (allS (Or.inr sz_b1) all0)
  show own_Ends p e below _ (T9.setTop (mkF m 23 #[.val (.ref c1), .val (.int (1 : Int32)), .val (.int (5 : Int32)), .val (.ref b1), .val (.int (1 : Int32))] []))
  refine own_iinc X9 hx #[.val (.ref c1), .val (.int (2 : Int32)), .val (.int (5 : Int32)), .val (.ref b1), .val (.int (1 : Int32))] (hb hby own_d_jdk_52_method_14_code_23) rfl rfl rfl ?_
  refine own_iinc X9 hx #[.val (.ref c1), .val (.int (2 : Int32)), .val (.int (5 : Int32)), .val (.ref b1), .val (.int (2 : Int32))] (hb hby own_d_jdk_52_method_14_code_26) rfl rfl rfl ?_
  refine own_goto X9 hx (hb hby own_d_jdk_52_method_14_code_29) (by decide) rfl ?_
  refine own_iload X9 hx (hb hby own_d_jdk_52_method_14_code_8) rfl rfl ?_
  refine own_iloadN X9 hx (hb hby own_d_jdk_52_method_14_code_10) rfl rfl ?_
  refine own_icmpF X9 hx (hb hby own_d_jdk_52_method_14_code_11) rfl (by decide) ?_
  refine own_aloadN X9 hx (hb hby own_d_jdk_52_method_14_code_14) rfl rfl rfl ?_
  refine own_iload X9 hx (hb hby own_d_jdk_52_method_14_code_15) rfl rfl ?_
  refine own_aloadN X9 hx (hb hby own_d_jdk_52_method_14_code_17) rfl rfl rfl ?_
  refine own_iloadN X9 hx (hb hby own_d_jdk_52_method_14_code_18) rfl rfl ?_
  have f11 := (f7.keep Kq9 (ninS (own_neV f3 V1 (by decide)) nin0))
  refine own_caload X9 hx hZ rfl f11 ⟨by decide, by decide⟩ rfl (hb hby own_d_jdk_52_method_14_code_19) rfl ?_
  have f12 := (f8.keep Kq9 (allS g_b1 all0))
  refine own_static X9 hx hZ (y := (⟨"java/lang/StringUTF16", "putChar", "([BII)V"⟩ : MethodName)) hown (hw _ (List.mem_of_getElem? (i := 70) rfl)) (hw _ (List.mem_of_getElem? (i := 71) rfl)) (hw _ (List.mem_of_getElem? (i := 52) rfl)) (hw _ (List.mem_of_getElem? (i := 72) rfl)) (by decide) rfl (by decide) (W := 0) (by decide) (by decide) (by decide) [(.ref b1), (.int (2 : Int32)), (.int x2)] [] (by rw [hml]; rfl) (own_put5_2 l Z a0 hw b1 _ x2 (StrChars.lo8 x0) (StrChars.hi8 x0) (StrChars.lo8 x1) (StrChars.hi8 x1) (0 : Int32) (0 : Int32) (0 : Int32) (0 : Int32) (0 : Int32) (0 : Int32) T9.heap n0 f12 SA SH SL g_b1 V9) own_pd2 rfl rfl rfl (hb hby own_d_jdk_52_method_14_code_20) rfl ?_
  intro v13 T13 L13 X13 hQ13
  obtain ⟨rfl, Nq13, Kq13, V13⟩ := hQ13
  have N13 := Fr.app N9 Nq13
  have K14 := K10.trans Kq13 (allS (Or.inr sz_b1) all0)
  show own_Ends p e below _ (T13.setTop (mkF m 23 #[.val (.ref c1), .val (.int (2 : Int32)), .val (.int (5 : Int32)), .val (.ref b1), .val (.int (2 : Int32))] []))
  refine own_iinc X13 hx #[.val (.ref c1), .val (.int (3 : Int32)), .val (.int (5 : Int32)), .val (.ref b1), .val (.int (2 : Int32))] (hb hby own_d_jdk_52_method_14_code_23) rfl rfl rfl ?_
  refine own_iinc X13 hx #[.val (.ref c1), .val (.int (3 : Int32)), .val (.int (5 : Int32)), .val (.ref b1), .val (.int (3 : Int32))] (hb hby own_d_jdk_52_method_14_code_26) rfl rfl rfl ?_
  refine own_goto X13 hx (hb hby own_d_jdk_52_method_14_code_29) (by decide) rfl ?_
  refine own_iload X13 hx (hb hby own_d_jdk_52_method_14_code_8) rfl rfl ?_
  refine own_iloadN X13 hx (hb hby own_d_jdk_52_method_14_code_10) rfl rfl ?_
  refine own_icmpF X13 hx (hb hby own_d_jdk_52_method_14_code_11) rfl (by decide) ?_
  refine own_aloadN X13 hx (hb hby own_d_jdk_52_method_14_code_14) rfl rfl rfl ?_
  refine own_iload X13 hx (hb hby own_d_jdk_52_method_14_code_15) rfl rfl ?_
  refine own_aloadN X13 hx (hb hby own_d_jdk_52_method_14_code_17) rfl rfl rfl ?_
  refine own_iloadN X13 hx (hb hby own_d_jdk_52_method_14_code_18) rfl rfl ?_
  have f15 := (f11.keep Kq13 (ninS (own_neV f3 V1 (by decide)) nin0))
  refine own_caload X13 hx hZ rfl f15 ⟨by decide, by decide⟩ rfl (hb hby own_d_jdk_52_method_14_code_19) rfl ?_
  have f16 := (f12.keep Kq13 (allS g_b1 all0))
  refine own_static X13 hx hZ (y := (⟨"java/lang/StringUTF16", "putChar", "([BII)V"⟩ : MethodName)) hown (hw _ (List.mem_of_getElem? (i := 70) rfl)) (hw _ (List.mem_of_getElem? (i := 71) rfl)) (hw _ (List.mem_of_getElem? (i := 52) rfl)) (hw _ (List.mem_of_getElem? (i := 72) rfl)) (by decide) rfl (by decide) (W := 0) (by decide) (by decide) (by decide) [(.ref b1), (.int (3 : Int32)), (.int x3)] [] (by rw [hml]; rfl) (own_put5_3 l Z a0 hw b1 _ x3 (StrChars.lo8 x0) (StrChars.hi8 x0) (StrChars.lo8 x1) (StrChars.hi8 x1) (StrChars.lo8 x2) (StrChars.hi8 x2) (0 : Int32) (0 : Int32) (0 : Int32) (0 : Int32) T13.heap n0 f16 SA SH SL g_b1 V13) own_pd2 rfl rfl rfl (hb hby own_d_jdk_52_method_14_code_20) rfl ?_
  intro v17 T17 L17 X17 hQ17
  obtain ⟨rfl, Nq17, Kq17, V17⟩ := hQ17
  have N17 := Fr.app N13 Nq17
  have K18 := K14.trans Kq17 (allS (Or.inr sz_b1) all0)
  show own_Ends p e below _ (T17.setTop (mkF m 23 #[.val (.ref c1), .val (.int (3 : Int32)), .val (.int (5 : Int32)), .val (.ref b1), .val (.int (3 : Int32))] []))
  refine own_iinc X17 hx #[.val (.ref c1), .val (.int (4 : Int32)), .val (.int (5 : Int32)), .val (.ref b1), .val (.int (3 : Int32))] (hb hby own_d_jdk_52_method_14_code_23) rfl rfl rfl ?_
  refine own_iinc X17 hx #[.val (.ref c1), .val (.int (4 : Int32)), .val (.int (5 : Int32)), .val (.ref b1), .val (.int (4 : Int32))] (hb hby own_d_jdk_52_method_14_code_26) rfl rfl rfl ?_
  refine own_goto X17 hx (hb hby own_d_jdk_52_method_14_code_29) (by decide) rfl ?_
  refine own_iload X17 hx (hb hby own_d_jdk_52_method_14_code_8) rfl rfl ?_
  refine own_iloadN X17 hx (hb hby own_d_jdk_52_method_14_code_10) rfl rfl ?_
  refine own_icmpF X17 hx (hb hby own_d_jdk_52_method_14_code_11) rfl (by decide) ?_
  refine own_aloadN X17 hx (hb hby own_d_jdk_52_method_14_code_14) rfl rfl rfl ?_
  refine own_iload X17 hx (hb hby own_d_jdk_52_method_14_code_15) rfl rfl ?_
  refine own_aloadN X17 hx (hb hby own_d_jdk_52_method_14_code_17) rfl rfl rfl ?_
  refine own_iloadN X17 hx (hb hby own_d_jdk_52_method_14_code_18) rfl rfl ?_
  have f19 := (f15.keep Kq17 (ninS (own_neV f3 V1 (by decide)) nin0))
  refine own_caload X17 hx hZ rfl f19 ⟨by decide, by decide⟩ rfl (hb hby own_d_jdk_52_method_14_code_19) rfl ?_
  have f20 := (f16.keep Kq17 (allS g_b1 all0))
  refine own_static X17 hx hZ (y := (⟨"java/lang/StringUTF16", "putChar", "([BII)V"⟩ : MethodName)) hown (hw _ (List.mem_of_getElem? (i := 70) rfl)) (hw _ (List.mem_of_getElem? (i := 71) rfl)) (hw _ (List.mem_of_getElem? (i := 52) rfl)) (hw _ (List.mem_of_getElem? (i := 72) rfl)) (by decide) rfl (by decide) (W := 0) (by decide) (by decide) (by decide) [(.ref b1), (.int (4 : Int32)), (.int x4)] [] (by rw [hml]; rfl) (own_put5_4 l Z a0 hw b1 _ x4 (StrChars.lo8 x0) (StrChars.hi8 x0) (StrChars.lo8 x1) (StrChars.hi8 x1) (StrChars.lo8 x2) (StrChars.hi8 x2) (StrChars.lo8 x3) (StrChars.hi8 x3) (0 : Int32) (0 : Int32) T17.heap n0 f20 SA SH SL g_b1 V17) own_pd2 rfl rfl rfl (hb hby own_d_jdk_52_method_14_code_20) rfl ?_
  intro v21 T21 L21 X21 hQ21
  obtain ⟨rfl, Nq21, Kq21, V21⟩ := hQ21
  have N21 := Fr.app N17 Nq21
  have K22 := K18.trans Kq21 (allS (Or.inr sz_b1) all0)
  show own_Ends p e below _ (T21.setTop (mkF m 23 #[.val (.ref c1), .val (.int (4 : Int32)), .val (.int (5 : Int32)), .val (.ref b1), .val (.int (4 : Int32))] []))
  refine own_iinc X21 hx #[.val (.ref c1), .val (.int (5 : Int32)), .val (.int (5 : Int32)), .val (.ref b1), .val (.int (4 : Int32))] (hb hby own_d_jdk_52_method_14_code_23) rfl rfl rfl ?_
  refine own_iinc X21 hx #[.val (.ref c1), .val (.int (5 : Int32)), .val (.int (5 : Int32)), .val (.ref b1), .val (.int (5 : Int32))] (hb hby own_d_jdk_52_method_14_code_26) rfl rfl rfl ?_
  refine own_goto X21 hx (hb hby own_d_jdk_52_method_14_code_29) (by decide) rfl ?_
  refine own_iload X21 hx (hb hby own_d_jdk_52_method_14_code_8) rfl rfl ?_
  refine own_iloadN X21 hx (hb hby own_d_jdk_52_method_14_code_10) rfl rfl ?_
  refine own_icmpT X21 hx (hb hby own_d_jdk_52_method_14_code_11) (by decide) rfl (by decide) ?_
  refine own_aloadN X21 hx (hb hby own_d_jdk_52_method_14_code_32) rfl rfl rfl ?_
  exact own_retA X21 hx hlocks hret rfl rfl (hb hby own_d_jdk_52_method_14_code_33) (by decide) (by decide) ⟨b1, _, rfl, N21, by exact ⟨K22, g_b1, sz_b1, V21⟩⟩
set_option maxRecDepth 65536 in
set_option maxHeartbeats 40000000 in
theorem own_cmpi5 (l : Launch) (Z : State) (a0 : Array Value) (hw : ∀ d ∈ tables_1, d.before a0 Z = true) (c1 : Addr) (kc : ClassId) (x0 x1 x2 x3 x4 : Int32) (b1 : Addr) (kb : ClassId) (h0 : Heap) (n0 : Nat) (O0 : Old Z n0 h0) (VC : Arv Z h0 c1 kc .char (5 : Int32) [.int x0, .int x1, .int x2, .int x3, .int x4] (.int (0 : Int32))) (g_b1 : n0 ≤ b1) (VB : Arv Z h0 b1 kb .byte (5 : Int32) [.int (0 : Int32), .int (0 : Int32), .int (0 : Int32), .int (0 : Int32), .int (0 : Int32)] (.int (0 : Int32))) (HB : (255 : Int32) < x0 ∨ (255 : Int32) < x1 ∨ (255 : Int32) < x2 ∨ (255 : Int32) < x3 ∨ (255 : Int32) < x4) :
    own_Met l (⟨"java/lang/StringUTF16", "compress", "([CI[BII)I"⟩ : MethodName) jdk_52_method_21_code 7 (some .int) ({ frames := 0, cells := 0, slots := 0, locals := 0 } : Room) Z #[(.ref c1), (.int (0 : Int32)), (.ref b1), (.int (0 : Int32)), (.int (5 : Int32))] h0 (fun v h L => ∃ i : Int32, v = some (.int i) ∧ ((i = (0 : Int32) ∧ (255 : Int32) < x0) ∨ (i = (1 : Int32) ∧ (255 : Int32) < x1) ∨ (i = (2 : Int32) ∧ (255 : Int32) < x2) ∨ (i = (3 : Int32) ∧ (255 : Int32) < x3) ∨ (i = (4 : Int32) ∧ (255 : Int32) < x4)) ∧ Fr n0 L ∧ Keep h0 h [b1]) := by
  refine own_met (plainFor_of_name own_pn_java_lang_StringUTF16) ?_
  intro p e s m below meth c T0 hx hby hml hZ hown hnm hret hlocks X0 e0 hh0
  have ef : entryFrame m #[(.ref c1), (.int (0 : Int32)), (.ref b1), (.int (0 : Int32)), (.int (5 : Int32))] 7 = mkF m 0 #[.val (.ref c1), .val (.int (0 : Int32)), .val (.ref b1), .val (.int (0 : Int32)), .val (.int (5 : Int32)), .unset, .unset] [] := by first | (simp [entryFrame, mkF, argsToLocals, Value.category]; done) | rfl
  refine own_entry ef ?_
  have N0 := Fr.nil n0
  have K0 := Keep.refl h0 [b1]
  have Z0 : n0 ≤ h0.size := O0.1 ▸ O0.2.1
  refine own_iconst X0 hx (0 : Int32) (hb hby own_d_jdk_52_method_21_code_0) (by decide) rfl ?_
  refine own_istore X0 hx #[.val (.ref c1), .val (.int (0 : Int32)), .val (.ref b1), .val (.int (0 : Int32)), .val (.int (5 : Int32)), .val (.int (0 : Int32)), .unset] (hb hby own_d_jdk_52_method_21_code_1) rfl rfl ?_
  refine own_iload X0 hx (hb hby own_d_jdk_52_method_21_code_3) rfl rfl ?_
  refine own_iload X0 hx (hb hby own_d_jdk_52_method_21_code_5) rfl rfl ?_
  refine own_icmpF X0 hx (hb hby own_d_jdk_52_method_21_code_7) rfl (by decide) ?_
  refine own_aloadN X0 hx (hb hby own_d_jdk_52_method_21_code_10) rfl rfl rfl ?_
  refine own_iloadN X0 hx (hb hby own_d_jdk_52_method_21_code_11) rfl rfl ?_
  refine own_caload X0 hx hZ e0 VC ⟨by decide, by decide⟩ rfl (hb hby own_d_jdk_52_method_21_code_12) rfl ?_
  refine own_istore X0 hx #[.val (.ref c1), .val (.int (0 : Int32)), .val (.ref b1), .val (.int (0 : Int32)), .val (.int (5 : Int32)), .val (.int (0 : Int32)), .val (.int x0)] (hb hby own_d_jdk_52_method_21_code_13) rfl rfl ?_
  refine own_iload X0 hx (hb hby own_d_jdk_52_method_21_code_15) rfl rfl ?_
  refine own_sipush X0 hx (255 : Int32) (hb hby own_d_jdk_52_method_21_code_17) (by decide) rfl ?_
  refine own_icmp_le X0 hx (hb hby own_d_jdk_52_method_21_code_20) (by decide) rfl rfl (fun hc20_1 => ?_) (fun hc20_1 => ?_)
  · refine own_aloadN X0 hx (hb hby own_d_jdk_52_method_21_code_26) rfl rfl rfl ?_
    refine own_iloadN X0 hx (hb hby own_d_jdk_52_method_21_code_27) rfl rfl ?_
    refine own_iload X0 hx (hb hby own_d_jdk_52_method_21_code_28) rfl rfl ?_
    refine own_i2b X0 hx (hb hby own_d_jdk_52_method_21_code_30) rfl ?_
    refine own_stB X0 hx hZ e0 VB ⟨by decide, by decide⟩ 0 rfl (Nat.le_of_ble_eq_true rfl) (own_lo8 x0) N0 g_b1 (hb hby own_d_jdk_52_method_21_code_31) rfl ?_
    intro T2 h2 X2 e2 W2 N2 V2
    have K3 := K0.wr W2 (Or.inl (List.mem_of_getElem? (i := 0) rfl))
    refine own_iinc X2 hx #[.val (.ref c1), .val (.int (1 : Int32)), .val (.ref b1), .val (.int (0 : Int32)), .val (.int (5 : Int32)), .val (.int (0 : Int32)), .val (.int x0)] (hb hby own_d_jdk_52_method_21_code_32) rfl rfl rfl ?_
    refine own_iinc X2 hx #[.val (.ref c1), .val (.int (1 : Int32)), .val (.ref b1), .val (.int (1 : Int32)), .val (.int (5 : Int32)), .val (.int (0 : Int32)), .val (.int x0)] (hb hby own_d_jdk_52_method_21_code_35) rfl rfl rfl ?_
    refine own_iinc X2 hx #[.val (.ref c1), .val (.int (1 : Int32)), .val (.ref b1), .val (.int (1 : Int32)), .val (.int (5 : Int32)), .val (.int (1 : Int32)), .val (.int x0)] (hb hby own_d_jdk_52_method_21_code_38) rfl rfl rfl ?_
    refine own_goto X2 hx (hb hby own_d_jdk_52_method_21_code_41) (by decide) rfl ?_
    refine own_iload X2 hx (hb hby own_d_jdk_52_method_21_code_3) rfl rfl ?_
    refine own_iload X2 hx (hb hby own_d_jdk_52_method_21_code_5) rfl rfl ?_
    refine own_icmpF X2 hx (hb hby own_d_jdk_52_method_21_code_7) rfl (by decide) ?_
    refine own_aloadN X2 hx (hb hby own_d_jdk_52_method_21_code_10) rfl rfl rfl ?_
    refine own_iloadN X2 hx (hb hby own_d_jdk_52_method_21_code_11) rfl rfl ?_
    have f4 := (VC.other W2 (own_neV VC VB (by decide)))
    refine own_caload X2 hx hZ e2 f4 ⟨by decide, by decide⟩ rfl (hb hby own_d_jdk_52_method_21_code_12) rfl ?_
    refine own_istore X2 hx #[.val (.ref c1), .val (.int (1 : Int32)), .val (.ref b1), .val (.int (1 : Int32)), .val (.int (5 : Int32)), .val (.int (1 : Int32)), .val (.int x1)] (hb hby own_d_jdk_52_method_21_code_13) rfl rfl ?_
    refine own_iload X2 hx (hb hby own_d_jdk_52_method_21_code_15) rfl rfl ?_
    refine own_sipush X2 hx (255 : Int32) (hb hby own_d_jdk_52_method_21_code_17) (by decide) rfl ?_
    refine own_icmp_le X2 hx (hb hby own_d_jdk_52_method_21_code_20) (by decide) rfl rfl (fun hc20_5 => ?_) (fun hc20_5 => ?_)
    · refine own_aloadN X2 hx (hb hby own_d_jdk_52_method_21_code_26) rfl rfl rfl ?_
      refine own_iloadN X2 hx (hb hby own_d_jdk_52_method_21_code_27) rfl rfl ?_
      refine own_iload X2 hx (hb hby own_d_jdk_52_method_21_code_28) rfl rfl ?_
      refine own_i2b X2 hx (hb hby own_d_jdk_52_method_21_code_30) rfl ?_
      refine own_stB X2 hx hZ e2 V2 ⟨by decide, by decide⟩ 1 rfl (Nat.le_of_ble_eq_true rfl) (own_lo8 x1) N2 g_b1 (hb hby own_d_jdk_52_method_21_code_31) rfl ?_
      intro T6 h6 X6 e6 W6 N6 V6
      have K7 := K3.wr W6 (Or.inl (List.mem_of_getElem? (i := 0) rfl))
      refine own_iinc X6 hx #[.val (.ref c1), .val (.int (2 : Int32)), .val (.ref b1), .val (.int (1 : Int32)), .val (.int (5 : Int32)), .val (.int (1 : Int32)), .val (.int x1)] (hb hby own_d_jdk_52_method_21_code_32) rfl rfl rfl ?_
      refine own_iinc X6 hx #[.val (.ref c1), .val (.int (2 : Int32)), .val (.ref b1), .val (.int (2 : Int32)), .val (.int (5 : Int32)), .val (.int (1 : Int32)), .val (.int x1)] (hb hby own_d_jdk_52_method_21_code_35) rfl rfl rfl ?_
      refine own_iinc X6 hx #[.val (.ref c1), .val (.int (2 : Int32)), .val (.ref b1), .val (.int (2 : Int32)), .val (.int (5 : Int32)), .val (.int (2 : Int32)), .val (.int x1)] (hb hby own_d_jdk_52_method_21_code_38) rfl rfl rfl ?_
      refine own_goto X6 hx (hb hby own_d_jdk_52_method_21_code_41) (by decide) rfl ?_
      refine own_iload X6 hx (hb hby own_d_jdk_52_method_21_code_3) rfl rfl ?_
      refine own_iload X6 hx (hb hby own_d_jdk_52_method_21_code_5) rfl rfl ?_
      refine own_icmpF X6 hx (hb hby own_d_jdk_52_method_21_code_7) rfl (by decide) ?_
      refine own_aloadN X6 hx (hb hby own_d_jdk_52_method_21_code_10) rfl rfl rfl ?_
      refine own_iloadN X6 hx (hb hby own_d_jdk_52_method_21_code_11) rfl rfl ?_
      have f8 := (f4.other W6 (own_neV VC VB (by decide)))
      refine own_caload X6 hx hZ e6 f8 ⟨by decide, by decide⟩ rfl (hb hby own_d_jdk_52_method_21_code_12) rfl ?_
      refine own_istore X6 hx #[.val (.ref c1), .val (.int (2 : Int32)), .val (.ref b1), .val (.int (2 : Int32)), .val (.int (5 : Int32)), .val (.int (2 : Int32)), .val (.int x2)] (hb hby own_d_jdk_52_method_21_code_13) rfl rfl ?_
      refine own_iload X6 hx (hb hby own_d_jdk_52_method_21_code_15) rfl rfl ?_
      refine own_sipush X6 hx (255 : Int32) (hb hby own_d_jdk_52_method_21_code_17) (by decide) rfl ?_
      refine own_icmp_le X6 hx (hb hby own_d_jdk_52_method_21_code_20) (by decide) rfl rfl (fun hc20_9 => ?_) (fun hc20_9 => ?_)
      · refine own_aloadN X6 hx (hb hby own_d_jdk_52_method_21_code_26) rfl rfl rfl ?_
        refine own_iloadN X6 hx (hb hby own_d_jdk_52_method_21_code_27) rfl rfl ?_
        refine own_iload X6 hx (hb hby own_d_jdk_52_method_21_code_28) rfl rfl ?_
        refine own_i2b X6 hx (hb hby own_d_jdk_52_method_21_code_30) rfl ?_
        refine own_stB X6 hx hZ e6 V6 ⟨by decide, by decide⟩ 2 rfl (Nat.le_of_ble_eq_true rfl) (own_lo8 x2) N6 g_b1 (hb hby own_d_jdk_52_method_21_code_31) rfl ?_
        intro T10 h10 X10 e10 W10 N10 V10
        have K11 := K7.wr W10 (Or.inl (List.mem_of_getElem? (i := 0) rfl))
        refine own_iinc X10 hx #[.val (.ref c1), .val (.int (3 : Int32)), .val (.ref b1), .val (.int (2 : Int32)), .val (.int (5 : Int32)), .val (.int (2 : Int32)), .val (.int x2)] (hb hby own_d_jdk_52_method_21_code_32) rfl rfl rfl ?_
        refine own_iinc X10 hx #[.val (.ref c1), .val (.int (3 : Int32)), .val (.ref b1), .val (.int (3 : Int32)), .val (.int (5 : Int32)), .val (.int (2 : Int32)), .val (.int x2)] (hb hby own_d_jdk_52_method_21_code_35) rfl rfl rfl ?_
        refine own_iinc X10 hx #[.val (.ref c1), .val (.int (3 : Int32)), .val (.ref b1), .val (.int (3 : Int32)), .val (.int (5 : Int32)), .val (.int (3 : Int32)), .val (.int x2)] (hb hby own_d_jdk_52_method_21_code_38) rfl rfl rfl ?_
        refine own_goto X10 hx (hb hby own_d_jdk_52_method_21_code_41) (by decide) rfl ?_
        refine own_iload X10 hx (hb hby own_d_jdk_52_method_21_code_3) rfl rfl ?_
        refine own_iload X10 hx (hb hby own_d_jdk_52_method_21_code_5) rfl rfl ?_
        refine own_icmpF X10 hx (hb hby own_d_jdk_52_method_21_code_7) rfl (by decide) ?_
        refine own_aloadN X10 hx (hb hby own_d_jdk_52_method_21_code_10) rfl rfl rfl ?_
        refine own_iloadN X10 hx (hb hby own_d_jdk_52_method_21_code_11) rfl rfl ?_
        have f12 := (f8.other W10 (own_neV VC VB (by decide)))
        refine own_caload X10 hx hZ e10 f12 ⟨by decide, by decide⟩ rfl (hb hby own_d_jdk_52_method_21_code_12) rfl ?_
        refine own_istore X10 hx #[.val (.ref c1), .val (.int (3 : Int32)), .val (.ref b1), .val (.int (3 : Int32)), .val (.int (5 : Int32)), .val (.int (3 : Int32)), .val (.int x3)] (hb hby own_d_jdk_52_method_21_code_13) rfl rfl ?_
        refine own_iload X10 hx (hb hby own_d_jdk_52_method_21_code_15) rfl rfl ?_
        refine own_sipush X10 hx (255 : Int32) (hb hby own_d_jdk_52_method_21_code_17) (by decide) rfl ?_
        refine own_icmp_le X10 hx (hb hby own_d_jdk_52_method_21_code_20) (by decide) rfl rfl (fun hc20_13 => ?_) (fun hc20_13 => ?_)
        · refine own_aloadN X10 hx (hb hby own_d_jdk_52_method_21_code_26) rfl rfl rfl ?_
          refine own_iloadN X10 hx (hb hby own_d_jdk_52_method_21_code_27) rfl rfl ?_
          refine own_iload X10 hx (hb hby own_d_jdk_52_method_21_code_28) rfl rfl ?_
          refine own_i2b X10 hx (hb hby own_d_jdk_52_method_21_code_30) rfl ?_
          refine own_stB X10 hx hZ e10 V10 ⟨by decide, by decide⟩ 3 rfl (Nat.le_of_ble_eq_true rfl) (own_lo8 x3) N10 g_b1 (hb hby own_d_jdk_52_method_21_code_31) rfl ?_
          intro T14 h14 X14 e14 W14 N14 V14
          have K15 := K11.wr W14 (Or.inl (List.mem_of_getElem? (i := 0) rfl))
          refine own_iinc X14 hx #[.val (.ref c1), .val (.int (4 : Int32)), .val (.ref b1), .val (.int (3 : Int32)), .val (.int (5 : Int32)), .val (.int (3 : Int32)), .val (.int x3)] (hb hby own_d_jdk_52_method_21_code_32) rfl rfl rfl ?_
          refine own_iinc X14 hx #[.val (.ref c1), .val (.int (4 : Int32)), .val (.ref b1), .val (.int (4 : Int32)), .val (.int (5 : Int32)), .val (.int (3 : Int32)), .val (.int x3)] (hb hby own_d_jdk_52_method_21_code_35) rfl rfl rfl ?_
          refine own_iinc X14 hx #[.val (.ref c1), .val (.int (4 : Int32)), .val (.ref b1), .val (.int (4 : Int32)), .val (.int (5 : Int32)), .val (.int (4 : Int32)), .val (.int x3)] (hb hby own_d_jdk_52_method_21_code_38) rfl rfl rfl ?_
          refine own_goto X14 hx (hb hby own_d_jdk_52_method_21_code_41) (by decide) rfl ?_
          refine own_iload X14 hx (hb hby own_d_jdk_52_method_21_code_3) rfl rfl ?_
          refine own_iload X14 hx (hb hby own_d_jdk_52_method_21_code_5) rfl rfl ?_
          refine own_icmpF X14 hx (hb hby own_d_jdk_52_method_21_code_7) rfl (by decide) ?_
          refine own_aloadN X14 hx (hb hby own_d_jdk_52_method_21_code_10) rfl rfl rfl ?_
          refine own_iloadN X14 hx (hb hby own_d_jdk_52_method_21_code_11) rfl rfl ?_
          have f16 := (f12.other W14 (own_neV VC VB (by decide)))
          refine own_caload X14 hx hZ e14 f16 ⟨by decide, by decide⟩ rfl (hb hby own_d_jdk_52_method_21_code_12) rfl ?_
          refine own_istore X14 hx #[.val (.ref c1), .val (.int (4 : Int32)), .val (.ref b1), .val (.int (4 : Int32)), .val (.int (5 : Int32)), .val (.int (4 : Int32)), .val (.int x4)] (hb hby own_d_jdk_52_method_21_code_13) rfl rfl ?_
          refine own_iload X14 hx (hb hby own_d_jdk_52_method_21_code_15) rfl rfl ?_
          refine own_sipush X14 hx (255 : Int32) (hb hby own_d_jdk_52_method_21_code_17) (by decide) rfl ?_
          refine own_icmp_le X14 hx (hb hby own_d_jdk_52_method_21_code_20) (by decide) rfl rfl (fun hc20_17 => ?_) (fun hc20_17 => ?_)
          · refine own_aloadN X14 hx (hb hby own_d_jdk_52_method_21_code_26) rfl rfl rfl ?_
            refine own_iloadN X14 hx (hb hby own_d_jdk_52_method_21_code_27) rfl rfl ?_
            refine own_iload X14 hx (hb hby own_d_jdk_52_method_21_code_28) rfl rfl ?_
            refine own_i2b X14 hx (hb hby own_d_jdk_52_method_21_code_30) rfl ?_
            refine own_stB X14 hx hZ e14 V14 ⟨by decide, by decide⟩ 4 rfl (Nat.le_of_ble_eq_true rfl) (own_lo8 x4) N14 g_b1 (hb hby own_d_jdk_52_method_21_code_31) rfl ?_
            intro T18 h18 X18 e18 W18 N18 V18
            have K19 := K15.wr W18 (Or.inl (List.mem_of_getElem? (i := 0) rfl))
            refine own_iinc X18 hx #[.val (.ref c1), .val (.int (5 : Int32)), .val (.ref b1), .val (.int (4 : Int32)), .val (.int (5 : Int32)), .val (.int (4 : Int32)), .val (.int x4)] (hb hby own_d_jdk_52_method_21_code_32) rfl rfl rfl ?_
            refine own_iinc X18 hx #[.val (.ref c1), .val (.int (5 : Int32)), .val (.ref b1), .val (.int (5 : Int32)), .val (.int (5 : Int32)), .val (.int (4 : Int32)), .val (.int x4)] (hb hby own_d_jdk_52_method_21_code_35) rfl rfl rfl ?_
            refine own_iinc X18 hx #[.val (.ref c1), .val (.int (5 : Int32)), .val (.ref b1), .val (.int (5 : Int32)), .val (.int (5 : Int32)), .val (.int (5 : Int32)), .val (.int x4)] (hb hby own_d_jdk_52_method_21_code_38) rfl rfl rfl ?_
            refine own_goto X18 hx (hb hby own_d_jdk_52_method_21_code_41) (by decide) rfl ?_
            refine own_iload X18 hx (hb hby own_d_jdk_52_method_21_code_3) rfl rfl ?_
            refine own_iload X18 hx (hb hby own_d_jdk_52_method_21_code_5) rfl rfl ?_
            refine own_icmpT X18 hx (hb hby own_d_jdk_52_method_21_code_7) (by decide) rfl (by decide) ?_
            refine own_iload X18 hx (hb hby own_d_jdk_52_method_21_code_44) rfl rfl ?_
            exact own_retI X18 hx hlocks hret (hb hby own_d_jdk_52_method_21_code_46) (by decide) (by decide) (by exfalso; rcases HB with hb | hb | hb | hb | hb <;> contradiction)
          · refine own_iload X14 hx (hb hby own_d_jdk_52_method_21_code_23) rfl rfl ?_
            exact own_retI X14 hx hlocks hret (hb hby own_d_jdk_52_method_21_code_25) (by decide) (by decide) ⟨_, rfl, Or.inr (Or.inr (Or.inr (Or.inr (⟨rfl, hc20_17⟩)))), N14, by rw [e14]; exact K15⟩
        · refine own_iload X10 hx (hb hby own_d_jdk_52_method_21_code_23) rfl rfl ?_
          exact own_retI X10 hx hlocks hret (hb hby own_d_jdk_52_method_21_code_25) (by decide) (by decide) ⟨_, rfl, Or.inr (Or.inr (Or.inr (Or.inl ⟨rfl, hc20_13⟩))), N10, by rw [e10]; exact K11⟩
      · refine own_iload X6 hx (hb hby own_d_jdk_52_method_21_code_23) rfl rfl ?_
        exact own_retI X6 hx hlocks hret (hb hby own_d_jdk_52_method_21_code_25) (by decide) (by decide) ⟨_, rfl, Or.inr (Or.inr (Or.inl ⟨rfl, hc20_9⟩)), N6, by rw [e6]; exact K7⟩
    · refine own_iload X2 hx (hb hby own_d_jdk_52_method_21_code_23) rfl rfl ?_
      exact own_retI X2 hx hlocks hret (hb hby own_d_jdk_52_method_21_code_25) (by decide) (by decide) ⟨_, rfl, Or.inr (Or.inl ⟨rfl, hc20_5⟩), N2, by rw [e2]; exact K3⟩
  · refine own_iload X0 hx (hb hby own_d_jdk_52_method_21_code_23) rfl rfl ?_
    exact own_retI X0 hx hlocks hret (hb hby own_d_jdk_52_method_21_code_25) (by decide) (by decide) ⟨_, rfl, Or.inl ⟨rfl, hc20_1⟩, N0, by rw [e0]; exact K0⟩
set_option maxRecDepth 65536 in
set_option maxHeartbeats 40000000 in
theorem own_cmpo5 (l : Launch) (Z : State) (a0 : Array Value) (hw : ∀ d ∈ tables_1, d.before a0 Z = true) (c1 : Addr) (kc : ClassId) (x0 x1 x2 x3 x4 : Int32) (h0 : Heap) (n0 : Nat) (O0 : Old Z n0 h0) (SA : Sta Z Z.heap "java/lang/StringUTF16" "$assertionsDisabled" "Z" (.int (1 : Int32))) (SH : Sta Z Z.heap "java/lang/StringUTF16" "HI_BYTE_SHIFT" "I" (.int (0 : Int32))) (SL : Sta Z Z.heap "java/lang/StringUTF16" "LO_BYTE_SHIFT" "I" (.int (8 : Int32))) (hx0 : ¬ x0 < 0 ∧ ¬ (65535 : Int32) < x0) (hx1 : ¬ x1 < 0 ∧ ¬ (65535 : Int32) < x1) (hx2 : ¬ x2 < 0 ∧ ¬ (65535 : Int32) < x2) (hx3 : ¬ x3 < 0 ∧ ¬ (65535 : Int32) < x3) (hx4 : ¬ x4 < 0 ∧ ¬ (65535 : Int32) < x4) (VC : Arv Z h0 c1 kc .char (5 : Int32) [.int x0, .int x1, .int x2, .int x3, .int x4] (.int (0 : Int32))) (HB : (255 : Int32) < x0 ∨ (255 : Int32) < x1 ∨ (255 : Int32) < x2 ∨ (255 : Int32) < x3 ∨ (255 : Int32) < x4) :
    own_Met l (⟨"java/lang/StringUTF16", "compress", "([CII)[B"⟩ : MethodName) jdk_52_method_16_code 6 (some (.array .byte)) ({ frames := 3, cells := 2, slots := 15, locals := 40 } : Room) Z #[(.ref c1), (.int (0 : Int32)), (.int (5 : Int32))] h0 (fun v h L => ∃ (b : Addr) (k : ClassId), v = some (.ref b) ∧ Fr n0 L ∧ Keep h0 h [] ∧ n0 ≤ b ∧ h0.size ≤ b ∧ Arv Z h b k .byte (10 : Int32) [.int (StrChars.lo8 x0), .int (StrChars.hi8 x0), .int (StrChars.lo8 x1), .int (StrChars.hi8 x1), .int (StrChars.lo8 x2), .int (StrChars.hi8 x2), .int (StrChars.lo8 x3), .int (StrChars.hi8 x3), .int (StrChars.lo8 x4), .int (StrChars.hi8 x4)] (.int (0 : Int32))) := by
  refine own_met (plainFor_of_name own_pn_java_lang_StringUTF16) ?_
  intro p e s m below meth c T0 hx hby hml hZ hown hnm hret hlocks X0 e0 hh0
  have ef : entryFrame m #[(.ref c1), (.int (0 : Int32)), (.int (5 : Int32))] 6 = mkF m 0 #[.val (.ref c1), .val (.int (0 : Int32)), .val (.int (5 : Int32)), .unset, .unset, .unset] [] := by first | (simp [entryFrame, mkF, argsToLocals, Value.category]; done) | rfl
  refine own_entry ef ?_
  have N0 := Fr.nil n0
  have K0 := Keep.refl h0 []
  have Z0 : n0 ≤ h0.size := O0.1 ▸ O0.2.1
  refine own_iloadN X0 hx (hb hby own_d_jdk_52_method_16_code_0) rfl rfl ?_
  refine own_newP X0 hx hZ (aty := .byte) (hw _ (List.mem_of_getElem? (i := 25) rfl)) e0 (hb hby own_d_jdk_52_method_16_code_1) (by decide) 5 (by decide) (by decide) (by decide) (by decide) rfl ?_
  intro T1 h1 b1 k1 X1 e1 g1 E1 V1q
  have g_b1 : n0 ≤ b1 := Nat.le_trans (own_oz O0) (Nat.le_of_eq g1.symm)
  have sz_b1 : h0.size ≤ b1 := Nat.le_trans K0.1 (Nat.le_of_eq g1.symm)
  have K2 := K0.ext E1
  have V1 : Arv Z h1 b1 k1 .byte (5 : Int32) [(.int (0 : Int32)), (.int (0 : Int32)), (.int (0 : Int32)), (.int (0 : Int32)), (.int (0 : Int32))] (.int (0 : Int32)) := Arv.pad V1q (pad_rep [] (.int (0 : Int32)) 5)
  refine own_astoreN X1 hx #[.val (.ref c1), .val (.int (0 : Int32)), .val (.int (5 : Int32)), .val (.ref b1), .unset, .unset] (hb hby own_d_jdk_52_method_16_code_3) rfl rfl rfl ?_
  refine own_aloadN X1 hx (hb hby own_d_jdk_52_method_16_code_4) rfl rfl rfl ?_
  refine own_iloadN X1 hx (hb hby own_d_jdk_52_method_16_code_5) rfl rfl ?_
  refine own_aloadN X1 hx (hb hby own_d_jdk_52_method_16_code_6) rfl rfl rfl ?_
  refine own_iconst X1 hx (0 : Int32) (hb hby own_d_jdk_52_method_16_code_7) (by decide) rfl ?_
  refine own_iloadN X1 hx (hb hby own_d_jdk_52_method_16_code_8) rfl rfl ?_
  have f3 := (O0.ext E1)
  have f4 := (VC.ext E1)
  refine own_static X1 hx hZ (y := (⟨"java/lang/StringUTF16", "compress", "([CI[BII)I"⟩ : MethodName)) hown (hw _ (List.mem_of_getElem? (i := 54) rfl)) (hw _ (List.mem_of_getElem? (i := 55) rfl)) (hw _ (List.mem_of_getElem? (i := 52) rfl)) (hw _ (List.mem_of_getElem? (i := 56) rfl)) (by decide) e1 (by decide) (W := 0) (by decide) (by decide) (by decide) [(.ref c1), (.int (0 : Int32)), (.ref b1), (.int (0 : Int32)), (.int (5 : Int32))] [] (by rw [hml]; rfl) (own_cmpi5 l Z a0 hw c1 _ x0 x1 x2 x3 x4 b1 _ h1 n0 f3 f4 g_b1 V1 HB) own_pd3 rfl rfl rfl (hb hby own_d_jdk_52_method_16_code_9) rfl ?_
  intro v5 T5 L5 X5 hQ5
  obtain ⟨i5, rfl, hi5, Nq5, Kq5⟩ := hQ5
  have N5 := Fr.app N0 Nq5
  have K6 := K2.trans Kq5 (allS (Or.inr sz_b1) all0)
  show own_Ends p e below _ (T5.setTop (mkF m 12 #[.val (.ref c1), .val (.int (0 : Int32)), .val (.int (5 : Int32)), .val (.ref b1), .unset, .unset] [(.int i5)]))
  rcases hi5 with ⟨rfl, hb0⟩ | ⟨rfl, hb1⟩ | ⟨rfl, hb2⟩ | ⟨rfl, hb3⟩ | ⟨rfl, hb4⟩
  · refine own_istore X5 hx #[.val (.ref c1), .val (.int (0 : Int32)), .val (.int (5 : Int32)), .val (.ref b1), .val (.int (0 : Int32)), .unset] (hb hby own_d_jdk_52_method_16_code_12) rfl rfl ?_
    refine own_iload X5 hx (hb hby own_d_jdk_52_method_16_code_14) rfl rfl ?_
    refine own_iloadN X5 hx (hb hby own_d_jdk_52_method_16_code_16) rfl rfl ?_
    refine own_icmpF X5 hx (hb hby own_d_jdk_52_method_16_code_17) rfl (by decide) ?_
    refine own_aloadN X5 hx (hb hby own_d_jdk_52_method_16_code_20) rfl rfl rfl ?_
    refine own_iloadN X5 hx (hb hby own_d_jdk_52_method_16_code_21) rfl rfl ?_
    refine own_iloadN X5 hx (hb hby own_d_jdk_52_method_16_code_22) rfl rfl ?_
    have f7 := (f3.keep Kq5 (allS g_b1 all0))
    have f8 := (f4.keep Kq5 (ninS (Nat.ne_of_lt (Nat.lt_of_lt_of_le VC.lt (Nat.le_of_eq g1.symm))) nin0))
    refine own_static X5 hx hZ (y := (⟨"java/lang/StringUTF16", "toBytes", "([CII)[B"⟩ : MethodName)) hown (hw _ (List.mem_of_getElem? (i := 60) rfl)) (hw _ (List.mem_of_getElem? (i := 61) rfl)) (hw _ (List.mem_of_getElem? (i := 52) rfl)) (hw _ (List.mem_of_getElem? (i := 62) rfl)) (by decide) rfl (by decide) (W := 0) (by decide) (by decide) (by decide) [(.ref c1), (.int (0 : Int32)), (.int (5 : Int32))] [] (by rw [hml]; rfl) (own_tob5 l Z a0 hw c1 _ x0 x1 x2 x3 x4 T5.heap n0 f7 SA SH SL f8) own_pd4 rfl rfl rfl (hb hby own_d_jdk_52_method_16_code_23) rfl ?_
    intro v9 T9 L9 X9 hQ9
    obtain ⟨b9, k9, rfl, Nq9, Kq9, g_b9, sz_b9, V9⟩ := hQ9
    have sz_b9 := Nat.le_trans K6.1 sz_b9
    have N9 := Fr.app N5 Nq9
    have K10 := K6.trans Kq9 all0
    show own_Ends p e below _ (T9.setTop (mkF m 26 #[.val (.ref c1), .val (.int (0 : Int32)), .val (.int (5 : Int32)), .val (.ref b1), .val (.int (0 : Int32)), .unset] [(.ref b9)]))
    refine own_astore X9 hx #[.val (.ref c1), .val (.int (0 : Int32)), .val (.int (5 : Int32)), .val (.ref b1), .val (.int (0 : Int32)), .val (.ref b9)] (hb hby own_d_jdk_52_method_16_code_26) rfl rfl rfl ?_
    refine own_aload X9 hx (hb hby own_d_jdk_52_method_16_code_28) rfl rfl rfl ?_
    refine own_iload X9 hx (hb hby own_d_jdk_52_method_16_code_30) rfl rfl ?_
    have f11 := (f7.keep Kq9 all0)
    refine own_static X9 hx hZ (y := (⟨"java/lang/StringUTF16", "getChar", "([BI)C"⟩ : MethodName)) hown (hw _ (List.mem_of_getElem? (i := 76) rfl)) (hw _ (List.mem_of_getElem? (i := 77) rfl)) (hw _ (List.mem_of_getElem? (i := 52) rfl)) (hw _ (List.mem_of_getElem? (i := 78) rfl)) (by decide) rfl (by decide) (W := 0) (by decide) (by decide) (by decide) [(.ref b9), (.int (0 : Int32))] [] (by rw [hml]; rfl) (own_get5_0 l Z a0 hw b9 _ x0 x1 x2 x3 x4 T9.heap n0 f11 SA SH SL hx0 hx1 hx2 hx3 hx4 V9) own_pd5 rfl rfl rfl (hb hby own_d_jdk_52_method_16_code_32) rfl ?_
    intro v12 T12 L12 X12 hQ12
    obtain ⟨rfl, Nq12, hh12⟩ := hQ12
    have N12 := Fr.app N9 Nq12
    show own_Ends p e below _ (T12.setTop (mkF m 35 #[.val (.ref c1), .val (.int (0 : Int32)), .val (.int (5 : Int32)), .val (.ref b1), .val (.int (0 : Int32)), .val (.ref b9)] [(.int x0)]))
    refine own_sipush X12 hx (255 : Int32) (hb hby own_d_jdk_52_method_16_code_35) (by decide) rfl ?_
    refine own_icmpT X12 hx (hb hby own_d_jdk_52_method_16_code_38) (by decide) rfl (tlt hb0).2.2.1 ?_
    refine own_aload X12 hx (hb hby own_d_jdk_52_method_16_code_54) rfl rfl rfl ?_
    exact own_retA X12 hx hlocks hret rfl rfl (hb hby own_d_jdk_52_method_16_code_56) (by decide) (by decide) ⟨b9, _, rfl, N12, by rw [hh12]; exact ⟨K10, g_b9, sz_b9, V9⟩⟩
  · refine own_istore X5 hx #[.val (.ref c1), .val (.int (0 : Int32)), .val (.int (5 : Int32)), .val (.ref b1), .val (.int (1 : Int32)), .unset] (hb hby own_d_jdk_52_method_16_code_12) rfl rfl ?_
    refine own_iload X5 hx (hb hby own_d_jdk_52_method_16_code_14) rfl rfl ?_
    refine own_iloadN X5 hx (hb hby own_d_jdk_52_method_16_code_16) rfl rfl ?_
    refine own_icmpF X5 hx (hb hby own_d_jdk_52_method_16_code_17) rfl (by decide) ?_
    refine own_aloadN X5 hx (hb hby own_d_jdk_52_method_16_code_20) rfl rfl rfl ?_
    refine own_iloadN X5 hx (hb hby own_d_jdk_52_method_16_code_21) rfl rfl ?_
    refine own_iloadN X5 hx (hb hby own_d_jdk_52_method_16_code_22) rfl rfl ?_
    have f13 := (f3.keep Kq5 (allS g_b1 all0))
    have f14 := (f4.keep Kq5 (ninS (Nat.ne_of_lt (Nat.lt_of_lt_of_le VC.lt (Nat.le_of_eq g1.symm))) nin0))
    refine own_static X5 hx hZ (y := (⟨"java/lang/StringUTF16", "toBytes", "([CII)[B"⟩ : MethodName)) hown (hw _ (List.mem_of_getElem? (i := 60) rfl)) (hw _ (List.mem_of_getElem? (i := 61) rfl)) (hw _ (List.mem_of_getElem? (i := 52) rfl)) (hw _ (List.mem_of_getElem? (i := 62) rfl)) (by decide) rfl (by decide) (W := 0) (by decide) (by decide) (by decide) [(.ref c1), (.int (0 : Int32)), (.int (5 : Int32))] [] (by rw [hml]; rfl) (own_tob5 l Z a0 hw c1 _ x0 x1 x2 x3 x4 T5.heap n0 f13 SA SH SL f14) own_pd4 rfl rfl rfl (hb hby own_d_jdk_52_method_16_code_23) rfl ?_
    intro v15 T15 L15 X15 hQ15
    obtain ⟨b15, k15, rfl, Nq15, Kq15, g_b15, sz_b15, V15⟩ := hQ15
    have sz_b15 := Nat.le_trans K6.1 sz_b15
    have N15 := Fr.app N5 Nq15
    have K16 := K6.trans Kq15 all0
    show own_Ends p e below _ (T15.setTop (mkF m 26 #[.val (.ref c1), .val (.int (0 : Int32)), .val (.int (5 : Int32)), .val (.ref b1), .val (.int (1 : Int32)), .unset] [(.ref b15)]))
    refine own_astore X15 hx #[.val (.ref c1), .val (.int (0 : Int32)), .val (.int (5 : Int32)), .val (.ref b1), .val (.int (1 : Int32)), .val (.ref b15)] (hb hby own_d_jdk_52_method_16_code_26) rfl rfl rfl ?_
    refine own_aload X15 hx (hb hby own_d_jdk_52_method_16_code_28) rfl rfl rfl ?_
    refine own_iload X15 hx (hb hby own_d_jdk_52_method_16_code_30) rfl rfl ?_
    have f17 := (f13.keep Kq15 all0)
    refine own_static X15 hx hZ (y := (⟨"java/lang/StringUTF16", "getChar", "([BI)C"⟩ : MethodName)) hown (hw _ (List.mem_of_getElem? (i := 76) rfl)) (hw _ (List.mem_of_getElem? (i := 77) rfl)) (hw _ (List.mem_of_getElem? (i := 52) rfl)) (hw _ (List.mem_of_getElem? (i := 78) rfl)) (by decide) rfl (by decide) (W := 0) (by decide) (by decide) (by decide) [(.ref b15), (.int (1 : Int32))] [] (by rw [hml]; rfl) (own_get5_1 l Z a0 hw b15 _ x0 x1 x2 x3 x4 T15.heap n0 f17 SA SH SL hx0 hx1 hx2 hx3 hx4 V15) own_pd5 rfl rfl rfl (hb hby own_d_jdk_52_method_16_code_32) rfl ?_
    intro v18 T18 L18 X18 hQ18
    obtain ⟨rfl, Nq18, hh18⟩ := hQ18
    have N18 := Fr.app N15 Nq18
    show own_Ends p e below _ (T18.setTop (mkF m 35 #[.val (.ref c1), .val (.int (0 : Int32)), .val (.int (5 : Int32)), .val (.ref b1), .val (.int (1 : Int32)), .val (.ref b15)] [(.int x1)]))
    refine own_sipush X18 hx (255 : Int32) (hb hby own_d_jdk_52_method_16_code_35) (by decide) rfl ?_
    refine own_icmpT X18 hx (hb hby own_d_jdk_52_method_16_code_38) (by decide) rfl (tlt hb1).2.2.1 ?_
    refine own_aload X18 hx (hb hby own_d_jdk_52_method_16_code_54) rfl rfl rfl ?_
    exact own_retA X18 hx hlocks hret rfl rfl (hb hby own_d_jdk_52_method_16_code_56) (by decide) (by decide) ⟨b15, _, rfl, N18, by rw [hh18]; exact ⟨K16, g_b15, sz_b15, V15⟩⟩
  · refine own_istore X5 hx #[.val (.ref c1), .val (.int (0 : Int32)), .val (.int (5 : Int32)), .val (.ref b1), .val (.int (2 : Int32)), .unset] (hb hby own_d_jdk_52_method_16_code_12) rfl rfl ?_
    refine own_iload X5 hx (hb hby own_d_jdk_52_method_16_code_14) rfl rfl ?_
    refine own_iloadN X5 hx (hb hby own_d_jdk_52_method_16_code_16) rfl rfl ?_
    refine own_icmpF X5 hx (hb hby own_d_jdk_52_method_16_code_17) rfl (by decide) ?_
    refine own_aloadN X5 hx (hb hby own_d_jdk_52_method_16_code_20) rfl rfl rfl ?_
    refine own_iloadN X5 hx (hb hby own_d_jdk_52_method_16_code_21) rfl rfl ?_
    refine own_iloadN X5 hx (hb hby own_d_jdk_52_method_16_code_22) rfl rfl ?_
    have f19 := (f3.keep Kq5 (allS g_b1 all0))
    have f20 := (f4.keep Kq5 (ninS (Nat.ne_of_lt (Nat.lt_of_lt_of_le VC.lt (Nat.le_of_eq g1.symm))) nin0))
    refine own_static X5 hx hZ (y := (⟨"java/lang/StringUTF16", "toBytes", "([CII)[B"⟩ : MethodName)) hown (hw _ (List.mem_of_getElem? (i := 60) rfl)) (hw _ (List.mem_of_getElem? (i := 61) rfl)) (hw _ (List.mem_of_getElem? (i := 52) rfl)) (hw _ (List.mem_of_getElem? (i := 62) rfl)) (by decide) rfl (by decide) (W := 0) (by decide) (by decide) (by decide) [(.ref c1), (.int (0 : Int32)), (.int (5 : Int32))] [] (by rw [hml]; rfl) (own_tob5 l Z a0 hw c1 _ x0 x1 x2 x3 x4 T5.heap n0 f19 SA SH SL f20) own_pd4 rfl rfl rfl (hb hby own_d_jdk_52_method_16_code_23) rfl ?_
    intro v21 T21 L21 X21 hQ21
    obtain ⟨b21, k21, rfl, Nq21, Kq21, g_b21, sz_b21, V21⟩ := hQ21
    have sz_b21 := Nat.le_trans K6.1 sz_b21
    have N21 := Fr.app N5 Nq21
    have K22 := K6.trans Kq21 all0
    show own_Ends p e below _ (T21.setTop (mkF m 26 #[.val (.ref c1), .val (.int (0 : Int32)), .val (.int (5 : Int32)), .val (.ref b1), .val (.int (2 : Int32)), .unset] [(.ref b21)]))
    refine own_astore X21 hx #[.val (.ref c1), .val (.int (0 : Int32)), .val (.int (5 : Int32)), .val (.ref b1), .val (.int (2 : Int32)), .val (.ref b21)] (hb hby own_d_jdk_52_method_16_code_26) rfl rfl rfl ?_
    refine own_aload X21 hx (hb hby own_d_jdk_52_method_16_code_28) rfl rfl rfl ?_
    refine own_iload X21 hx (hb hby own_d_jdk_52_method_16_code_30) rfl rfl ?_
    have f23 := (f19.keep Kq21 all0)
    refine own_static X21 hx hZ (y := (⟨"java/lang/StringUTF16", "getChar", "([BI)C"⟩ : MethodName)) hown (hw _ (List.mem_of_getElem? (i := 76) rfl)) (hw _ (List.mem_of_getElem? (i := 77) rfl)) (hw _ (List.mem_of_getElem? (i := 52) rfl)) (hw _ (List.mem_of_getElem? (i := 78) rfl)) (by decide) rfl (by decide) (W := 0) (by decide) (by decide) (by decide) [(.ref b21), (.int (2 : Int32))] [] (by rw [hml]; rfl) (own_get5_2 l Z a0 hw b21 _ x0 x1 x2 x3 x4 T21.heap n0 f23 SA SH SL hx0 hx1 hx2 hx3 hx4 V21) own_pd5 rfl rfl rfl (hb hby own_d_jdk_52_method_16_code_32) rfl ?_
    intro v24 T24 L24 X24 hQ24
    obtain ⟨rfl, Nq24, hh24⟩ := hQ24
    have N24 := Fr.app N21 Nq24
    show own_Ends p e below _ (T24.setTop (mkF m 35 #[.val (.ref c1), .val (.int (0 : Int32)), .val (.int (5 : Int32)), .val (.ref b1), .val (.int (2 : Int32)), .val (.ref b21)] [(.int x2)]))
    refine own_sipush X24 hx (255 : Int32) (hb hby own_d_jdk_52_method_16_code_35) (by decide) rfl ?_
    refine own_icmpT X24 hx (hb hby own_d_jdk_52_method_16_code_38) (by decide) rfl (tlt hb2).2.2.1 ?_
    refine own_aload X24 hx (hb hby own_d_jdk_52_method_16_code_54) rfl rfl rfl ?_
    exact own_retA X24 hx hlocks hret rfl rfl (hb hby own_d_jdk_52_method_16_code_56) (by decide) (by decide) ⟨b21, _, rfl, N24, by rw [hh24]; exact ⟨K22, g_b21, sz_b21, V21⟩⟩
  · refine own_istore X5 hx #[.val (.ref c1), .val (.int (0 : Int32)), .val (.int (5 : Int32)), .val (.ref b1), .val (.int (3 : Int32)), .unset] (hb hby own_d_jdk_52_method_16_code_12) rfl rfl ?_
    refine own_iload X5 hx (hb hby own_d_jdk_52_method_16_code_14) rfl rfl ?_
    refine own_iloadN X5 hx (hb hby own_d_jdk_52_method_16_code_16) rfl rfl ?_
    refine own_icmpF X5 hx (hb hby own_d_jdk_52_method_16_code_17) rfl (by decide) ?_
    refine own_aloadN X5 hx (hb hby own_d_jdk_52_method_16_code_20) rfl rfl rfl ?_
    refine own_iloadN X5 hx (hb hby own_d_jdk_52_method_16_code_21) rfl rfl ?_
    refine own_iloadN X5 hx (hb hby own_d_jdk_52_method_16_code_22) rfl rfl ?_
    have f25 := (f3.keep Kq5 (allS g_b1 all0))
    have f26 := (f4.keep Kq5 (ninS (Nat.ne_of_lt (Nat.lt_of_lt_of_le VC.lt (Nat.le_of_eq g1.symm))) nin0))
    refine own_static X5 hx hZ (y := (⟨"java/lang/StringUTF16", "toBytes", "([CII)[B"⟩ : MethodName)) hown (hw _ (List.mem_of_getElem? (i := 60) rfl)) (hw _ (List.mem_of_getElem? (i := 61) rfl)) (hw _ (List.mem_of_getElem? (i := 52) rfl)) (hw _ (List.mem_of_getElem? (i := 62) rfl)) (by decide) rfl (by decide) (W := 0) (by decide) (by decide) (by decide) [(.ref c1), (.int (0 : Int32)), (.int (5 : Int32))] [] (by rw [hml]; rfl) (own_tob5 l Z a0 hw c1 _ x0 x1 x2 x3 x4 T5.heap n0 f25 SA SH SL f26) own_pd4 rfl rfl rfl (hb hby own_d_jdk_52_method_16_code_23) rfl ?_
    intro v27 T27 L27 X27 hQ27
    obtain ⟨b27, k27, rfl, Nq27, Kq27, g_b27, sz_b27, V27⟩ := hQ27
    have sz_b27 := Nat.le_trans K6.1 sz_b27
    have N27 := Fr.app N5 Nq27
    have K28 := K6.trans Kq27 all0
    show own_Ends p e below _ (T27.setTop (mkF m 26 #[.val (.ref c1), .val (.int (0 : Int32)), .val (.int (5 : Int32)), .val (.ref b1), .val (.int (3 : Int32)), .unset] [(.ref b27)]))
    refine own_astore X27 hx #[.val (.ref c1), .val (.int (0 : Int32)), .val (.int (5 : Int32)), .val (.ref b1), .val (.int (3 : Int32)), .val (.ref b27)] (hb hby own_d_jdk_52_method_16_code_26) rfl rfl rfl ?_
    refine own_aload X27 hx (hb hby own_d_jdk_52_method_16_code_28) rfl rfl rfl ?_
    refine own_iload X27 hx (hb hby own_d_jdk_52_method_16_code_30) rfl rfl ?_
    have f29 := (f25.keep Kq27 all0)
    refine own_static X27 hx hZ (y := (⟨"java/lang/StringUTF16", "getChar", "([BI)C"⟩ : MethodName)) hown (hw _ (List.mem_of_getElem? (i := 76) rfl)) (hw _ (List.mem_of_getElem? (i := 77) rfl)) (hw _ (List.mem_of_getElem? (i := 52) rfl)) (hw _ (List.mem_of_getElem? (i := 78) rfl)) (by decide) rfl (by decide) (W := 0) (by decide) (by decide) (by decide) [(.ref b27), (.int (3 : Int32))] [] (by rw [hml]; rfl) (own_get5_3 l Z a0 hw b27 _ x0 x1 x2 x3 x4 T27.heap n0 f29 SA SH SL hx0 hx1 hx2 hx3 hx4 V27) own_pd5 rfl rfl rfl (hb hby own_d_jdk_52_method_16_code_32) rfl ?_
    intro v30 T30 L30 X30 hQ30
    obtain ⟨rfl, Nq30, hh30⟩ := hQ30
    have N30 := Fr.app N27 Nq30
    show own_Ends p e below _ (T30.setTop (mkF m 35 #[.val (.ref c1), .val (.int (0 : Int32)), .val (.int (5 : Int32)), .val (.ref b1), .val (.int (3 : Int32)), .val (.ref b27)] [(.int x3)]))
    refine own_sipush X30 hx (255 : Int32) (hb hby own_d_jdk_52_method_16_code_35) (by decide) rfl ?_
    refine own_icmpT X30 hx (hb hby own_d_jdk_52_method_16_code_38) (by decide) rfl (tlt hb3).2.2.1 ?_
    refine own_aload X30 hx (hb hby own_d_jdk_52_method_16_code_54) rfl rfl rfl ?_
    exact own_retA X30 hx hlocks hret rfl rfl (hb hby own_d_jdk_52_method_16_code_56) (by decide) (by decide) ⟨b27, _, rfl, N30, by rw [hh30]; exact ⟨K28, g_b27, sz_b27, V27⟩⟩
  · refine own_istore X5 hx #[.val (.ref c1), .val (.int (0 : Int32)), .val (.int (5 : Int32)), .val (.ref b1), .val (.int (4 : Int32)), .unset] (hb hby own_d_jdk_52_method_16_code_12) rfl rfl ?_
    refine own_iload X5 hx (hb hby own_d_jdk_52_method_16_code_14) rfl rfl ?_
    refine own_iloadN X5 hx (hb hby own_d_jdk_52_method_16_code_16) rfl rfl ?_
    refine own_icmpF X5 hx (hb hby own_d_jdk_52_method_16_code_17) rfl (by decide) ?_
    refine own_aloadN X5 hx (hb hby own_d_jdk_52_method_16_code_20) rfl rfl rfl ?_
    refine own_iloadN X5 hx (hb hby own_d_jdk_52_method_16_code_21) rfl rfl ?_
    refine own_iloadN X5 hx (hb hby own_d_jdk_52_method_16_code_22) rfl rfl ?_
    have f31 := (f3.keep Kq5 (allS g_b1 all0))
    have f32 := (f4.keep Kq5 (ninS (Nat.ne_of_lt (Nat.lt_of_lt_of_le VC.lt (Nat.le_of_eq g1.symm))) nin0))
    refine own_static X5 hx hZ (y := (⟨"java/lang/StringUTF16", "toBytes", "([CII)[B"⟩ : MethodName)) hown (hw _ (List.mem_of_getElem? (i := 60) rfl)) (hw _ (List.mem_of_getElem? (i := 61) rfl)) (hw _ (List.mem_of_getElem? (i := 52) rfl)) (hw _ (List.mem_of_getElem? (i := 62) rfl)) (by decide) rfl (by decide) (W := 0) (by decide) (by decide) (by decide) [(.ref c1), (.int (0 : Int32)), (.int (5 : Int32))] [] (by rw [hml]; rfl) (own_tob5 l Z a0 hw c1 _ x0 x1 x2 x3 x4 T5.heap n0 f31 SA SH SL f32) own_pd4 rfl rfl rfl (hb hby own_d_jdk_52_method_16_code_23) rfl ?_
    intro v33 T33 L33 X33 hQ33
    obtain ⟨b33, k33, rfl, Nq33, Kq33, g_b33, sz_b33, V33⟩ := hQ33
    have sz_b33 := Nat.le_trans K6.1 sz_b33
    have N33 := Fr.app N5 Nq33
    have K34 := K6.trans Kq33 all0
    show own_Ends p e below _ (T33.setTop (mkF m 26 #[.val (.ref c1), .val (.int (0 : Int32)), .val (.int (5 : Int32)), .val (.ref b1), .val (.int (4 : Int32)), .unset] [(.ref b33)]))
    refine own_astore X33 hx #[.val (.ref c1), .val (.int (0 : Int32)), .val (.int (5 : Int32)), .val (.ref b1), .val (.int (4 : Int32)), .val (.ref b33)] (hb hby own_d_jdk_52_method_16_code_26) rfl rfl rfl ?_
    refine own_aload X33 hx (hb hby own_d_jdk_52_method_16_code_28) rfl rfl rfl ?_
    refine own_iload X33 hx (hb hby own_d_jdk_52_method_16_code_30) rfl rfl ?_
    have f35 := (f31.keep Kq33 all0)
    refine own_static X33 hx hZ (y := (⟨"java/lang/StringUTF16", "getChar", "([BI)C"⟩ : MethodName)) hown (hw _ (List.mem_of_getElem? (i := 76) rfl)) (hw _ (List.mem_of_getElem? (i := 77) rfl)) (hw _ (List.mem_of_getElem? (i := 52) rfl)) (hw _ (List.mem_of_getElem? (i := 78) rfl)) (by decide) rfl (by decide) (W := 0) (by decide) (by decide) (by decide) [(.ref b33), (.int (4 : Int32))] [] (by rw [hml]; rfl) (own_get5_4 l Z a0 hw b33 _ x0 x1 x2 x3 x4 T33.heap n0 f35 SA SH SL hx0 hx1 hx2 hx3 hx4 V33) own_pd5 rfl rfl rfl (hb hby own_d_jdk_52_method_16_code_32) rfl ?_
    intro v36 T36 L36 X36 hQ36
    obtain ⟨rfl, Nq36, hh36⟩ := hQ36
    have N36 := Fr.app N33 Nq36
    show own_Ends p e below _ (T36.setTop (mkF m 35 #[.val (.ref c1), .val (.int (0 : Int32)), .val (.int (5 : Int32)), .val (.ref b1), .val (.int (4 : Int32)), .val (.ref b33)] [(.int x4)]))
    refine own_sipush X36 hx (255 : Int32) (hb hby own_d_jdk_52_method_16_code_35) (by decide) rfl ?_
    refine own_icmpT X36 hx (hb hby own_d_jdk_52_method_16_code_38) (by decide) rfl (tlt hb4).2.2.1 ?_
    refine own_aload X36 hx (hb hby own_d_jdk_52_method_16_code_54) rfl rfl rfl ?_
    exact own_retA X36 hx hlocks hret rfl rfl (hb hby own_d_jdk_52_method_16_code_56) (by decide) (by decide) ⟨b33, _, rfl, N36, by rw [hh36]; exact ⟨K34, g_b33, sz_b33, V33⟩⟩
set_option maxRecDepth 65536 in
set_option maxHeartbeats 40000000 in
theorem own_cdr5 (l : Launch) (Z : State) (a0 : Array Value) (hw : ∀ d ∈ tables_1, d.before a0 Z = true) (b1 : Addr) (kb : ClassId) (x0 x1 x2 x3 x4 : Int32) (h0 : Heap) (n0 : Nat) (VB : Arv Z h0 b1 kb .byte (10 : Int32) [.int (StrChars.lo8 x0), .int (StrChars.hi8 x0), .int (StrChars.lo8 x1), .int (StrChars.hi8 x1), .int (StrChars.lo8 x2), .int (StrChars.hi8 x2), .int (StrChars.lo8 x3), .int (StrChars.hi8 x3), .int (StrChars.lo8 x4), .int (StrChars.hi8 x4)] (.int (0 : Int32))) :
    own_Met l (⟨"java/lang/StringUTF16", "coderFromArrayLen", "([BI)B"⟩ : MethodName) jdk_52_method_15_code 2 (some .byte) ({ frames := 0, cells := 0, slots := 0, locals := 0 } : Room) Z #[(.ref b1), (.int (5 : Int32))] h0 (fun v h L => v = some (.int (1 : Int32)) ∧ Fr n0 L ∧ h = h0) := by
  refine own_met (plainFor_of_name own_pn_java_lang_StringUTF16) ?_
  intro p e s m below meth c T0 hx hby hml hZ hown hnm hret hlocks X0 e0 hh0
  have ef : entryFrame m #[(.ref b1), (.int (5 : Int32))] 2 = mkF m 0 #[.val (.ref b1), .val (.int (5 : Int32))] [] := by first | (simp [entryFrame, mkF, argsToLocals, Value.category]; done) | rfl
  refine own_entry ef ?_
  have N0 := Fr.nil n0
  refine own_iloadN X0 hx (hb hby own_d_jdk_52_method_15_code_0) rfl rfl ?_
  refine own_aloadN X0 hx (hb hby own_d_jdk_52_method_15_code_1) rfl rfl rfl ?_
  refine own_arraylength X0 hx hZ e0 VB (hb hby own_d_jdk_52_method_15_code_2) rfl ?_
  refine own_isub X0 hx (hb hby own_d_jdk_52_method_15_code_3) rfl ?_
  rw [show ((5 : Int32) - (10 : Int32)) = (-5 : Int32) from by decide]
  refine own_bipush X0 hx (31 : Int32) (hb hby own_d_jdk_52_method_15_code_4) (by decide) rfl ?_
  refine own_iushr X0 hx (hb hby own_d_jdk_52_method_15_code_6) rfl ?_
  rw [show (own_ushr (-5 : Int32) (31 : Int32)) = (1 : Int32) from by decide]
  refine own_i2b X0 hx (hb hby own_d_jdk_52_method_15_code_7) rfl ?_
  rw [show ((1 : Int32).toInt8.toInt32) = (1 : Int32) from by decide]
  exact own_retN X0 hx hlocks hret (by simp) (hb hby own_d_jdk_52_method_15_code_8) (by decide) (by decide) (by decide) ⟨rfl, N0, e0⟩
set_option maxRecDepth 65536 in
set_option maxHeartbeats 40000000 in
theorem own_wi5 (l : Launch) (Z : State) (a0 : Array Value) (hw : ∀ d ∈ tables_1, d.before a0 Z = true) (a1 : Addr) (zc : Int32) (c1 : Addr) (kc : ClassId) (x0 x1 x2 x3 x4 : Int32) (h0 : Heap) (n0 : Nat) (O0 : Old Z n0 h0) (SC : Sta Z Z.heap "java/lang/String" "COMPACT_STRINGS" "Z" (.int zc)) (hzc : ¬ zc = 0) (SA : Sta Z Z.heap "java/lang/StringUTF16" "$assertionsDisabled" "Z" (.int (1 : Int32))) (SH : Sta Z Z.heap "java/lang/StringUTF16" "HI_BYTE_SHIFT" "I" (.int (0 : Int32))) (SL : Sta Z Z.heap "java/lang/StringUTF16" "LO_BYTE_SHIFT" "I" (.int (8 : Int32))) (hx0 : ¬ x0 < 0 ∧ ¬ (65535 : Int32) < x0) (hx1 : ¬ x1 < 0 ∧ ¬ (65535 : Int32) < x1) (hx2 : ¬ x2 < 0 ∧ ¬ (65535 : Int32) < x2) (hx3 : ¬ x3 < 0 ∧ ¬ (65535 : Int32) < x3) (hx4 : ¬ x4 < 0 ∧ ¬ (65535 : Int32) < x4) (g_a1 : n0 ≤ a1) (E0 : Exa Z h0 a1 "java/lang/String") (F1 : Fld Z h0 a1 "java/lang/String" "value" "[B" .null) (F2 : Fld Z h0 a1 "java/lang/String" "coder" "B" (.int (0 : Int32))) (VC : Arv Z h0 c1 kc .char (5 : Int32) [.int x0, .int x1, .int x2, .int x3, .int x4] (.int (0 : Int32))) (HB : (255 : Int32) < x0 ∨ (255 : Int32) < x1 ∨ (255 : Int32) < x2 ∨ (255 : Int32) < x3 ∨ (255 : Int32) < x4) :
    own_Met l (⟨"java/lang/String", "<init>", "([CIILjava/lang/Void;)V"⟩ : MethodName) jdk_42_method_149_code 6 none ({ frames := 4, cells := 2, slots := 15, locals := 57 } : Room) Z #[(.ref a1), (.ref c1), (.int (0 : Int32)), (.int (5 : Int32)), .null] h0 (fun v h L => v = none ∧ Fr n0 L ∧ Keep h0 h [a1] ∧ own_Str Z h a1 [x0, x1, x2, x3, x4]) := by
  refine own_met (plainFor_of_name own_pn_java_lang_String) ?_
  intro p e s m below meth c T0 hx hby hml hZ hown hnm hret hlocks X0 e0 hh0
  have ef : entryFrame m #[(.ref a1), (.ref c1), (.int (0 : Int32)), (.int (5 : Int32)), .null] 6 = mkF m 0 #[.val (.ref a1), .val (.ref c1), .val (.int (0 : Int32)), .val (.int (5 : Int32)), .val .null, .unset] [] := by first | (simp [entryFrame, mkF, argsToLocals, Value.category]; done) | rfl
  refine own_entry ef ?_
  have N0 := Fr.nil n0
  have K0 := Keep.refl h0 [a1]
  have Z0 : n0 ≤ h0.size := O0.1 ▸ O0.2.1
  refine own_aloadN X0 hx (hb hby own_d_jdk_42_method_149_code_0) rfl rfl rfl ?_
  refine own_initO X0 hx hZ hown (hw _ (List.mem_of_getElem? (i := 21) rfl)) (hw _ (List.mem_of_getElem? (i := 22) rfl)) (hw _ (List.mem_of_getElem? (i := 23) rfl)) e0 (by rw [hml]; rfl) (hb hby own_d_jdk_42_method_149_code_1) 0 rfl (by decide) (by decide) rfl ?_
  intro T1 X1 e1
  refine own_iloadN X1 hx (hb hby own_d_jdk_42_method_149_code_4) rfl rfl ?_
  refine own_ifT X1 hx (hb hby own_d_jdk_42_method_149_code_5) (by decide) rfl (by decide) ?_
  refine own_getS X1 hx hZ hown (host := "") (Or.inl (hw _ (List.mem_of_getElem? (i := 43) rfl))) Via.refl e1 (SC.ext O0.2) (hb hby own_d_jdk_42_method_149_code_27) rfl ?_
  intro T2 X2 e2
  refine own_ifF X2 hx (hb hby own_d_jdk_42_method_149_code_30) rfl (feq hzc).1 ?_
  refine own_aloadN X2 hx (hb hby own_d_jdk_42_method_149_code_33) rfl rfl rfl ?_
  refine own_iloadN X2 hx (hb hby own_d_jdk_42_method_149_code_34) rfl rfl ?_
  refine own_iloadN X2 hx (hb hby own_d_jdk_42_method_149_code_35) rfl rfl ?_
  refine own_static X2 hx hZ (y := (⟨"java/lang/StringUTF16", "compress", "([CII)[B"⟩ : MethodName)) hown (hw _ (List.mem_of_getElem? (i := 50) rfl)) (hw _ (List.mem_of_getElem? (i := 51) rfl)) (hw _ (List.mem_of_getElem? (i := 52) rfl)) (hw _ (List.mem_of_getElem? (i := 53) rfl)) (by decide) e2 (by decide) (W := 0) (by decide) (by decide) (by decide) [(.ref c1), (.int (0 : Int32)), (.int (5 : Int32))] [] (by rw [hml]; rfl) (own_cmpo5 l Z a0 hw c1 _ x0 x1 x2 x3 x4 h0 n0 O0 SA SH SL hx0 hx1 hx2 hx3 hx4 VC HB) own_pd4 rfl rfl rfl (hb hby own_d_jdk_42_method_149_code_36) rfl ?_
  intro v3 T3 L3 X3 hQ3
  obtain ⟨b3, k3, rfl, Nq3, Kq3, g_b3, sz_b3, V3⟩ := hQ3
  have sz_b3 := Nat.le_trans K0.1 sz_b3
  have N3 := Fr.app N0 Nq3
  have K4 := K0.trans Kq3 all0
  show own_Ends p e below _ (T3.setTop (mkF m 39 #[.val (.ref a1), .val (.ref c1), .val (.int (0 : Int32)), .val (.int (5 : Int32)), .val .null, .unset] [(.ref b3)]))
  refine own_astore X3 hx #[.val (.ref a1), .val (.ref c1), .val (.int (0 : Int32)), .val (.int (5 : Int32)), .val .null, .val (.ref b3)] (hb hby own_d_jdk_42_method_149_code_39) rfl rfl rfl ?_
  refine own_aloadN X3 hx (hb hby own_d_jdk_42_method_149_code_41) rfl rfl rfl ?_
  refine own_aload X3 hx (hb hby own_d_jdk_42_method_149_code_42) rfl rfl rfl ?_
  refine own_iloadN X3 hx (hb hby own_d_jdk_42_method_149_code_44) rfl rfl ?_
  refine own_static X3 hx hZ (y := (⟨"java/lang/StringUTF16", "coderFromArrayLen", "([BI)B"⟩ : MethodName)) hown (hw _ (List.mem_of_getElem? (i := 57) rfl)) (hw _ (List.mem_of_getElem? (i := 58) rfl)) (hw _ (List.mem_of_getElem? (i := 52) rfl)) (hw _ (List.mem_of_getElem? (i := 59) rfl)) (by decide) rfl (by decide) (W := 1) (by decide) (by decide) (by decide) [(.ref b3), (.int (5 : Int32))] [(.ref a1)] (by rw [hml]; rfl) (own_cdr5 l Z a0 hw b3 _ x0 x1 x2 x3 x4 T3.heap n0 V3) own_pd6 rfl rfl rfl (hb hby own_d_jdk_42_method_149_code_45) rfl ?_
  intro v5 T5 L5 X5 hQ5
  obtain ⟨rfl, Nq5, hh5⟩ := hQ5
  have N5 := Fr.app N3 Nq5
  show own_Ends p e below _ (T5.setTop (mkF m 48 #[.val (.ref a1), .val (.ref c1), .val (.int (0 : Int32)), .val (.int (5 : Int32)), .val .null, .val (.ref b3)] [(.int (1 : Int32)), (.ref a1)]))
  have f6 := (F2.keep Kq3 nin0)
  have f7 := (E0.keep Kq3)
  refine own_putFN X5 hx hZ hown (hw _ (List.mem_of_getElem? (i := 31) rfl)) Via.refl hh5 (.int (1 : Int32)) f6 f7 (Or.inr ⟨(hw _ (List.mem_of_getElem? (i := 27) rfl)), rfl, hnm⟩) (hw _ (List.mem_of_getElem? (i := 11) rfl)) (ty := .byte) (by decide) rfl rfl N5 g_a1 (hb hby own_d_jdk_42_method_149_code_48) rfl ?_
  intro T8 h8 X8 e8 W8 N8
  have K9 := K4.wr W8 (Or.inl (List.mem_of_getElem? (i := 0) rfl))
  have f10 := f6.same W8
  refine own_aloadN X8 hx (hb hby own_d_jdk_42_method_149_code_51) rfl rfl rfl ?_
  refine own_aload X8 hx (hb hby own_d_jdk_42_method_149_code_52) rfl rfl rfl ?_
  have f11 := ((F1.keep Kq3 nin0).other W8 (Or.inr (slot_ne (Or.inr (hw _ (List.mem_of_getElem? (i := 26) rfl))) (Or.inr (hw _ (List.mem_of_getElem? (i := 27) rfl))) (by decide) (t := (.array .byte)) (t' := .byte) (by decide) (by decide))))
  have f12 := (f7.wr W8)
  refine own_putF X8 hx hZ hown (host := "") (Or.inl (hw _ (List.mem_of_getElem? (i := 30) rfl))) Via.refl e8 f11 f12 (Or.inr ⟨(hw _ (List.mem_of_getElem? (i := 26) rfl)), rfl, hnm⟩) (hw _ (List.mem_of_getElem? (i := 11) rfl)) (ty := (.array .byte)) (by decide) rfl rfl N8 g_a1 (hb hby own_d_jdk_42_method_149_code_54) rfl ?_
  intro T13 h13 X13 e13 W13 N13
  have K14 := K9.wr W13 (Or.inl (List.mem_of_getElem? (i := 0) rfl))
  have f15 := f11.same W13
  have f16 := (f12.wr W13)
  have f17 := (f10.other W13 (Or.inr (slot_ne (Or.inr (hw _ (List.mem_of_getElem? (i := 27) rfl))) (Or.inr (hw _ (List.mem_of_getElem? (i := 26) rfl))) (by decide) (t := .byte) (t' := (.array .byte)) (by decide) (by decide))))
  have f18 := ((V3.other W8 (Ne.symm (Exa.neArv f7 V3 (hw _ (List.mem_of_getElem? (i := 11) rfl))))).other W13 (Ne.symm (Exa.neArv f7 V3 (hw _ (List.mem_of_getElem? (i := 11) rfl)))))
  exact own_ret X13 hx hlocks hret (hb hby own_d_jdk_42_method_149_code_57) (by decide) (by decide) ⟨rfl, N13, by rw [e13]; exact ⟨K14, _, _, _, _, _, f16, f15, f17, f18, Or.inr ⟨rfl, rfl, rfl, (by rcases HB with hb | hb | hb | hb | hb <;> first | exact ⟨x0, List.mem_of_getElem? (i := 0) rfl, hb⟩ | exact ⟨x1, List.mem_of_getElem? (i := 1) rfl, hb⟩ | exact ⟨x2, List.mem_of_getElem? (i := 2) rfl, hb⟩ | exact ⟨x3, List.mem_of_getElem? (i := 3) rfl, hb⟩ | exact ⟨x4, List.mem_of_getElem? (i := 4) rfl, hb⟩)⟩, (own_c2 hx0 (own_c2 hx1 (own_c2 hx2 (own_c2 hx3 (own_c2 hx4 own_c0))))), (Nat.le_of_ble_eq_true rfl)⟩⟩
set_option maxRecDepth 65536 in
set_option maxHeartbeats 40000000 in
theorem own_wd5 (l : Launch) (Z : State) (a0 : Array Value) (hw : ∀ d ∈ tables_1, d.before a0 Z = true) (a1 : Addr) (zc : Int32) (c1 : Addr) (kc : ClassId) (x0 x1 x2 x3 x4 : Int32) (h0 : Heap) (n0 : Nat) (O0 : Old Z n0 h0) (SC : Sta Z Z.heap "java/lang/String" "COMPACT_STRINGS" "Z" (.int zc)) (hzc : ¬ zc = 0) (SA : Sta Z Z.heap "java/lang/StringUTF16" "$assertionsDisabled" "Z" (.int (1 : Int32))) (SH : Sta Z Z.heap "java/lang/StringUTF16" "HI_BYTE_SHIFT" "I" (.int (0 : Int32))) (SL : Sta Z Z.heap "java/lang/StringUTF16" "LO_BYTE_SHIFT" "I" (.int (8 : Int32))) (hx0 : ¬ x0 < 0 ∧ ¬ (65535 : Int32) < x0) (hx1 : ¬ x1 < 0 ∧ ¬ (65535 : Int32) < x1) (hx2 : ¬ x2 < 0 ∧ ¬ (65535 : Int32) < x2) (hx3 : ¬ x3 < 0 ∧ ¬ (65535 : Int32) < x3) (hx4 : ¬ x4 < 0 ∧ ¬ (65535 : Int32) < x4) (g_a1 : n0 ≤ a1) (E0 : Exa Z h0 a1 "java/lang/String") (F1 : Fld Z h0 a1 "java/lang/String" "value" "[B" .null) (F2 : Fld Z h0 a1 "java/lang/String" "coder" "B" (.int (0 : Int32))) (VC : Arv Z h0 c1 kc .char (5 : Int32) [.int x0, .int x1, .int x2, .int x3, .int x4] (.int (0 : Int32))) (HB : (255 : Int32) < x0 ∨ (255 : Int32) < x1 ∨ (255 : Int32) < x2 ∨ (255 : Int32) < x3 ∨ (255 : Int32) < x4) :
    own_Met l (⟨"java/lang/String", "<init>", "([C)V"⟩ : MethodName) jdk_42_method_3_code 2 none ({ frames := 5, cells := 2, slots := 15, locals := 74 } : Room) Z #[(.ref a1), (.ref c1)] h0 (fun v h L => v = none ∧ Fr n0 L ∧ Keep h0 h [a1] ∧ own_Str Z h a1 [x0, x1, x2, x3, x4]) := by
  refine own_met (plainFor_of_name own_pn_java_lang_String) ?_
  intro p e s m below meth c T0 hx hby hml hZ hown hnm hret hlocks X0 e0 hh0
  have ef : entryFrame m #[(.ref a1), (.ref c1)] 2 = mkF m 0 #[.val (.ref a1), .val (.ref c1)] [] := by first | (simp [entryFrame, mkF, argsToLocals, Value.category]; done) | rfl
  refine own_entry ef ?_
  have N0 := Fr.nil n0
  have K0 := Keep.refl h0 [a1]
  have Z0 : n0 ≤ h0.size := O0.1 ▸ O0.2.1
  refine own_aloadN X0 hx (hb hby own_d_jdk_42_method_3_code_0) rfl rfl rfl ?_
  refine own_aloadN X0 hx (hb hby own_d_jdk_42_method_3_code_1) rfl rfl rfl ?_
  refine own_iconst X0 hx (0 : Int32) (hb hby own_d_jdk_42_method_3_code_2) (by decide) rfl ?_
  refine own_aloadN X0 hx (hb hby own_d_jdk_42_method_3_code_3) rfl rfl rfl ?_
  refine own_arraylength X0 hx hZ e0 VC (hb hby own_d_jdk_42_method_3_code_4) rfl ?_
  refine own_aconst_null X0 hx (hb hby own_d_jdk_42_method_3_code_5) rfl ?_
  refine own_special X0 hx hZ (y := (⟨"java/lang/String", "<init>", "([CIILjava/lang/Void;)V"⟩ : MethodName)) rfl hown (hw _ (List.mem_of_getElem? (i := 17) rfl)) (hw _ (List.mem_of_getElem? (i := 18) rfl)) (hw _ (List.mem_of_getElem? (i := 12) rfl)) (hw _ (List.mem_of_getElem? (i := 20) rfl)) (by decide) e0 (by decide) (W := 0) (by decide) (by decide) (by decide) [(.ref c1), (.int (0 : Int32)), (.int (5 : Int32)), .null] [] (by rw [hml]; rfl) (a := a1) (own_wi5 l Z a0 hw a1 zc c1 _ x0 x1 x2 x3 x4 h0 n0 O0 SC hzc SA SH SL hx0 hx1 hx2 hx3 hx4 g_a1 E0 F1 F2 VC HB) own_pd7 rfl rfl rfl (hb hby own_d_jdk_42_method_3_code_6) rfl ?_
  intro v1 T1 L1 X1 hQ1
  obtain ⟨rfl, Nq1, Kq1, Ss1⟩ := hQ1
  have N1 := Fr.app N0 Nq1
  have K2 := K0.trans Kq1 (allS (Or.inl (List.mem_of_getElem? (i := 0) rfl)) all0)
  show own_Ends p e below _ (T1.setTop (mkF m 9 #[.val (.ref a1), .val (.ref c1)] []))
  exact own_ret X1 hx hlocks hret (hb hby own_d_jdk_42_method_3_code_9) (by decide) (by decide) ⟨rfl, N1, K2, Ss1⟩
theorem own_wideOr5 (x0 x1 x2 x3 x4 : Int32) : (¬ (255 : Int32) < x0 ∧ ¬ (255 : Int32) < x1 ∧ ¬ (255 : Int32) < x2 ∧ ¬ (255 : Int32) < x3 ∧ ¬ (255 : Int32) < x4) ∨ ((255 : Int32) < x0 ∨ (255 : Int32) < x1 ∨ (255 : Int32) < x2 ∨ (255 : Int32) < x3 ∨ (255 : Int32) < x4) := by
  by_cases hb0 : (255 : Int32) < x0
  · exact Or.inr (Or.inl hb0)
  by_cases hb1 : (255 : Int32) < x1
  · exact Or.inr (Or.inr (Or.inl hb1))
  by_cases hb2 : (255 : Int32) < x2
  · exact Or.inr (Or.inr (Or.inr (Or.inl hb2)))
  by_cases hb3 : (255 : Int32) < x3
  · exact Or.inr (Or.inr (Or.inr (Or.inr (Or.inl hb3))))
  by_cases hb4 : (255 : Int32) < x4
  · exact Or.inr (Or.inr (Or.inr (Or.inr (Or.inr (hb4)))))
  exact Or.inl ⟨hb0, hb1, hb2, hb3, hb4⟩
set_option maxRecDepth 65536 in
set_option maxHeartbeats 40000000 in
theorem own_s4 (l : Launch) (Z : State) (a0 : Array Value) (hw : ∀ d ∈ tables_1, d.before a0 Z = true) (a1 c1 : Addr) (h0 : Heap) (n0 : Nat) (hEL : EW Z a0 consts_1) (O0 : Old Z n0 h0) (g_a1 : n0 ≤ a1) (E0 : Exa Z h0 a1 "java/lang/String") (F1 : Fld Z h0 a1 "java/lang/String" "value" "[B" .null) (F2 : Fld Z h0 a1 "java/lang/String" "coder" "B" (.int (0 : Int32))) :
    own_MetH l (⟨"java/lang/String", "<init>", "([CIILjava/lang/Void;)V"⟩ : MethodName) jdk_42_method_149_code 6 none ({ frames := 1, cells := 4, slots := 8, locals := 12 } : Room) Z consts_1 #[(.ref a1), (.ref c1), (.int (0 : Int32)), (.int (0 : Int32)), .null] h0 (fun v h L => v = none ∧ Fr n0 L ∧ Keep h0 h [a1] ∧ own_Str Z h a1 []) := by
  refine own_metH (plainFor_of_name own_pn_java_lang_String) ?_
  intro p e s m below meth c T0 hx hby hml hZ hown hnm hret hlocks X0 e0 hh0 HH0
  have ef : entryFrame m #[(.ref a1), (.ref c1), (.int (0 : Int32)), (.int (0 : Int32)), .null] 6 = mkF m 0 #[.val (.ref a1), .val (.ref c1), .val (.int (0 : Int32)), .val (.int (0 : Int32)), .val .null, .unset] [] := by first | (simp [entryFrame, mkF, argsToLocals, Value.category]; done) | rfl
  refine own_entry ef ?_
  have N0 := Fr.nil n0
  have K0 := Keep.refl h0 [a1]
  have hwS := own_hwS hw
  have Y0 := own_safeNull (EL := consts_1) hZ.alike E0 F1
  refine own_aloadN X0 hx (hb hby own_d_jdk_42_method_149_code_0) rfl rfl rfl ?_
  refine own_initO X0 hx hZ hown (hw _ (List.mem_of_getElem? (i := 21) rfl)) (hw _ (List.mem_of_getElem? (i := 22) rfl)) (hw _ (List.mem_of_getElem? (i := 23) rfl)) e0 (by rw [hml]; rfl) (hb hby own_d_jdk_42_method_149_code_1) 0 rfl (by decide) (by decide) rfl ?_
  intro T1 X1 e1
  refine own_iloadN X1 hx (hb hby own_d_jdk_42_method_149_code_4) rfl rfl ?_
  refine own_ifF X1 hx (hb hby own_d_jdk_42_method_149_code_5) rfl (by decide) ?_
  refine own_aloadN X1 hx (hb hby own_d_jdk_42_method_149_code_8) rfl rfl rfl ?_
  refine own_ldcS X1 hx hZ hown (hw _ (List.mem_of_getElem? (i := 24) rfl)) hwS e1 HH0 hEL (List.mem_of_getElem? (i := 3) rfl) (vs := ((([] : List Int32).map StrChars.lo8).map Value.int)) (z := (0 : Int32)) (by decide +kernel) (by decide) (by decide) (hb hby own_d_jdk_42_method_149_code_9) 0 (by decide) (by decide) (by decide) (by decide) rfl ?_
  intro ls2 T2 h2 lt2 k2 X2 e2 E2 hZ hown HH2 A2 Ex2 Fc2 Fv2 V2 ne2
  have K3 := K0.ext E2
  have f4 := (CHr.safe A2 E0.lt Y0)
  have nq2_a1 := ne2 _ f4
  refine own_getF X2 hx hZ hown (host := "") (Or.inl (hw _ (List.mem_of_getElem? (i := 30) rfl))) Via.refl e2 Fv2 (hb hby own_d_jdk_42_method_149_code_11) rfl ?_
  intro T5 X5 e5
  have f6 := (F1.ext E2)
  have f7 := (E0.ext E2)
  refine own_putF X5 hx hZ hown (host := "") (Or.inl (hw _ (List.mem_of_getElem? (i := 30) rfl))) Via.refl e5 f6 f7 (Or.inr ⟨(hw _ (List.mem_of_getElem? (i := 26) rfl)), rfl, hnm⟩) (hw _ (List.mem_of_getElem? (i := 11) rfl)) (ty := (.array .byte)) (by decide) rfl rfl N0 g_a1 (hb hby own_d_jdk_42_method_149_code_14) rfl ?_
  intro T8 h8 X8 e8 W8 N8
  have HH9 := HH2.wr W8 f4
  have K10 := K3.wr W8 (Or.inl (List.mem_of_getElem? (i := 0) rfl))
  have f11 := f6.same W8
  refine own_aloadN X8 hx (hb hby own_d_jdk_42_method_149_code_17) rfl rfl rfl ?_
  refine own_ldcS X8 hx hZ hown (hw _ (List.mem_of_getElem? (i := 24) rfl)) hwS e8 HH9 hEL (List.mem_of_getElem? (i := 3) rfl) (vs := ((([] : List Int32).map StrChars.lo8).map Value.int)) (z := (0 : Int32)) (by decide +kernel) (by decide) (by decide) (hb hby own_d_jdk_42_method_149_code_18) 0 (by decide) (by decide) (by decide) (by decide) rfl ?_
  intro ls12 T12 h12 lt12 k12 X12 e12 E12 hZ hown HH12 A12 Ex12 Fc12 Fv12 V12 ne12
  have K13 := K10.ext E12
  have f14 := (CHr.safe A12 f11.lt (own_sfW f4 W8 f4 HH2))
  have nq12_a1 := ne12 _ f14
  refine own_getF X12 hx hZ hown (host := "") (Or.inl (hw _ (List.mem_of_getElem? (i := 31) rfl))) Via.refl e12 Fc12 (hb hby own_d_jdk_42_method_149_code_20) rfl ?_
  intro T15 X15 e15
  have f16 := (((F2.ext E2).other W8 (Or.inr (slot_ne (Or.inr (hw _ (List.mem_of_getElem? (i := 27) rfl))) (Or.inr (hw _ (List.mem_of_getElem? (i := 26) rfl))) (by decide) (t := .byte) (t' := (.array .byte)) (by decide) (by decide)))).ext E12)
  have f17 := ((f7.wr W8).ext E12)
  refine own_putFN X15 hx hZ hown (hw _ (List.mem_of_getElem? (i := 31) rfl)) Via.refl e15 (.int (0 : Int32)) f16 f17 (Or.inr ⟨(hw _ (List.mem_of_getElem? (i := 27) rfl)), rfl, hnm⟩) (hw _ (List.mem_of_getElem? (i := 11) rfl)) (ty := .byte) (by decide) rfl rfl N8 g_a1 (hb hby own_d_jdk_42_method_149_code_23) rfl ?_
  intro T18 h18 X18 e18 W18 N18
  have HH19 := HH12.wr W18 f14
  have K20 := K13.wr W18 (Or.inl (List.mem_of_getElem? (i := 0) rfl))
  have f21 := f16.same W18
  have f22 := (f17.wr W18)
  have f23 := ((f11.ext E12).other W18 (Or.inr (slot_ne (Or.inr (hw _ (List.mem_of_getElem? (i := 26) rfl))) (Or.inr (hw _ (List.mem_of_getElem? (i := 27) rfl))) (by decide) (t := (.array .byte)) (t' := .byte) (by decide) (by decide))))
  have f24 := (((V2.other W8 (Ne.symm nq2_a1.2)).ext E12).other W18 (Ne.symm nq2_a1.2))
  exact own_retH X18 hx hZ e18 HH19 hEL hlocks hret (hb hby own_d_jdk_42_method_149_code_26) (by decide) (by decide) ⟨rfl, N18, by rw [e18]; exact ⟨K20, _, _, _, _, _, f22, f23, f21, f24, StrChars.Road.codOf (cs := []) (n := 0) rfl (by decide), own_c0, (by decide)⟩⟩
set_option maxRecDepth 65536 in
set_option maxHeartbeats 40000000 in
theorem own_s1 (l : Launch) (Z : State) (a0 : Array Value) (hw : ∀ d ∈ tables_1, d.before a0 Z = true) (a1 c1 : Addr) (kc : ClassId) (h0 : Heap) (n0 : Nat) (hEL : EW Z a0 consts_1) (O0 : Old Z n0 h0) (g_a1 : n0 ≤ a1) (E0 : Exa Z h0 a1 "java/lang/String") (F1 : Fld Z h0 a1 "java/lang/String" "value" "[B" .null) (F2 : Fld Z h0 a1 "java/lang/String" "coder" "B" (.int (0 : Int32))) (V0 : Arv Z h0 c1 kc .char (0 : Int32) [] (.int (0 : Int32))) :
    own_MetH l (⟨"java/lang/String", "<init>", "([C)V"⟩ : MethodName) jdk_42_method_3_code 2 none ({ frames := 2, cells := 4, slots := 8, locals := 29 } : Room) Z consts_1 #[(.ref a1), (.ref c1)] h0 (fun v h L => v = none ∧ Fr n0 L ∧ Keep h0 h [a1] ∧ own_Str Z h a1 []) := by
  refine own_metH (plainFor_of_name own_pn_java_lang_String) ?_
  intro p e s m below meth c T0 hx hby hml hZ hown hnm hret hlocks X0 e0 hh0 HH0
  have ef : entryFrame m #[(.ref a1), (.ref c1)] 2 = mkF m 0 #[.val (.ref a1), .val (.ref c1)] [] := by first | (simp [entryFrame, mkF, argsToLocals, Value.category]; done) | rfl
  refine own_entry ef ?_
  have N0 := Fr.nil n0
  have K0 := Keep.refl h0 [a1]
  have hwS := own_hwS hw
  have Y0 := own_safeNull (EL := consts_1) hZ.alike E0 F1
  refine own_aloadN X0 hx (hb hby own_d_jdk_42_method_3_code_0) rfl rfl rfl ?_
  refine own_aloadN X0 hx (hb hby own_d_jdk_42_method_3_code_1) rfl rfl rfl ?_
  refine own_iconst X0 hx (0 : Int32) (hb hby own_d_jdk_42_method_3_code_2) (by decide) rfl ?_
  refine own_aloadN X0 hx (hb hby own_d_jdk_42_method_3_code_3) rfl rfl rfl ?_
  refine own_arraylength X0 hx hZ e0 V0 (hb hby own_d_jdk_42_method_3_code_4) rfl ?_
  refine own_aconst_null X0 hx (hb hby own_d_jdk_42_method_3_code_5) rfl ?_
  refine own_specialH X0 hx hZ (y := (⟨"java/lang/String", "<init>", "([CIILjava/lang/Void;)V"⟩ : MethodName)) rfl hown (hw _ (List.mem_of_getElem? (i := 17) rfl)) (hw _ (List.mem_of_getElem? (i := 18) rfl)) (hw _ (List.mem_of_getElem? (i := 12) rfl)) (hw _ (List.mem_of_getElem? (i := 20) rfl)) (by decide) HH0 hEL e0 (by decide) (W := 0) (by decide) (by decide) (by decide) [(.ref c1), (.int (0 : Int32)), (.int (0 : Int32)), .null] [] (by rw [hml]; rfl) (a := a1) (own_s4 l Z a0 hw a1 c1 h0 n0 hEL O0 g_a1 E0 F1 F2) own_pd7 rfl rfl rfl (hb hby own_d_jdk_42_method_3_code_6) rfl ?_
  intro v1 T1 L1 X1 hQ1 hZ hown HH1 A1
  obtain ⟨rfl, Nq1, Kq1, Ss1⟩ := hQ1
  have N1 := Fr.app N0 Nq1
  have K2 := K0.trans Kq1 (allS (Or.inl (List.mem_of_getElem? (i := 0) rfl)) all0)
  show own_Ends p e below _ (T1.setTop (mkF m 9 #[.val (.ref a1), .val (.ref c1)] []))
  exact own_retH X1 hx hZ rfl HH1 hEL hlocks hret (hb hby own_d_jdk_42_method_3_code_9) (by decide) (by decide) ⟨rfl, N1, K2, Ss1⟩
set_option maxRecDepth 65536 in
set_option maxHeartbeats 40000000 in
theorem own_chr (l : Launch) (Z : State) (a0 : Array Value) (hw : ∀ d ∈ tables_1, d.before a0 Z = true) (p1 : Int32) (h0 : Heap) (n0 : Nat) (O0 : Old Z n0 h0) :
    own_Met l (⟨"com/example/pincio/pincio/core/CanonicalLiteralsIsSpecialPinLaw", "ch", "(I)C"⟩ : MethodName) method_2_code 2 (some .char) ({ frames := 0, cells := 1, slots := 8, locals := 0 } : Room) Z #[(.int p1)] h0 (fun v h L => ∃ c : Int32, v = some (.int c) ∧ (¬ c < 0 ∧ ¬ (65535 : Int32) < c) ∧ Fr n0 L ∧ Keep h0 h []) := by
  refine own_met (plainFor_of_name own_pn_com_example_pincio_pincio_core_CanonicalLiteralsIsSpecialPinLaw) ?_
  intro p e s m below meth c T0 hx hby hml hZ hown hnm hret hlocks X0 e0 hh0
  have ef : entryFrame m #[(.int p1)] 2 = mkF m 0 #[.val (.int p1), .unset] [] := by first | (simp [entryFrame, mkF, argsToLocals, Value.category]; done) | rfl
  refine own_entry ef ?_
  have N0 := Fr.nil n0
  have K0 := Keep.refl h0 []
  have Z0 : n0 ≤ h0.size := O0.1 ▸ O0.2.1
  refine own_iloadN X0 hx (hb hby own_d_method_2_code_0) rfl rfl ?_
  refine own_ldcInt X0 hx hZ hown (hw _ (List.mem_of_getElem? (i := 5) rfl)) (hb hby own_d_method_2_code_1) rfl ?_
  refine own_iand X0 hx (hb hby own_d_method_2_code_3) rfl ?_
  refine own_if_eq X0 hx (hb hby own_d_method_2_code_4) (by decide) rfl rfl (fun hc4_1 => ?_) (fun hc4_1 => ?_)
  · refine own_iloadN X0 hx (hb hby own_d_method_2_code_64) rfl rfl ?_
    refine own_ldcInt X0 hx hZ hown (hw _ (List.mem_of_getElem? (i := 6) rfl)) (hb hby own_d_method_2_code_65) rfl ?_
    refine own_iand X0 hx (hb hby own_d_method_2_code_67) rfl ?_
    refine own_i2c X0 hx (hb hby own_d_method_2_code_68) rfl ?_
    have hcc := own_ch16 (p1 &&& (65535 : Int32))
    generalize ((p1 &&& (65535 : Int32)).toUInt32.toUInt16.toUInt32.toInt32) = cc at hcc ⊢
    exact own_retN X0 hx hlocks hret (by simp) (hb hby own_d_method_2_code_69) (by decide) (by decide) (own_narC2 hcc) ⟨cc, rfl, hcc, N0, by rw [e0]; exact K0⟩
  · refine own_bipush X0 hx (8 : Int32) (hb hby own_d_method_2_code_7) (by decide) rfl ?_
    refine own_newP X0 hx hZ (aty := .char) (hw _ (List.mem_of_getElem? (i := 13) rfl)) e0 (hb hby own_d_method_2_code_9) (by decide) 8 (by decide) (by decide) (by decide) (by decide) rfl ?_
    intro T2 h2 b2 k2 X2 e2 g2 E2 V2q
    have g_b2 : n0 ≤ b2 := Nat.le_trans (own_oz O0) (Nat.le_of_eq g2.symm)
    have sz_b2 : h0.size ≤ b2 := Nat.le_trans K0.1 (Nat.le_of_eq g2.symm)
    have K3 := K0.ext E2
    have V2 : Arv Z h2 b2 k2 .char (8 : Int32) [(.int (0 : Int32)), (.int (0 : Int32)), (.int (0 : Int32)), (.int (0 : Int32)), (.int (0 : Int32)), (.int (0 : Int32)), (.int (0 : Int32)), (.int (0 : Int32))] (.int (0 : Int32)) := Arv.pad V2q (pad_rep [] (.int (0 : Int32)) 8)
    refine own_dup X2 hx (hb hby own_d_method_2_code_11) rfl rfl ?_
    refine own_iconst X2 hx (0 : Int32) (hb hby own_d_method_2_code_12) (by decide) rfl ?_
    refine own_bipush X2 hx (73 : Int32) (hb hby own_d_method_2_code_13) (by decide) rfl ?_
    refine own_stC X2 hx hZ e2 V2 ⟨by decide, by decide⟩ 0 rfl (Nat.le_of_ble_eq_true rfl) (by decide) N0 g_b2 (hb hby own_d_method_2_code_15) rfl ?_
    intro T4 h4 X4 e4 W4 N4 V4
    have K5 := K3.wr W4 (Or.inr sz_b2)
    refine own_dup X4 hx (hb hby own_d_method_2_code_16) rfl rfl ?_
    refine own_iconst X4 hx (1 : Int32) (hb hby own_d_method_2_code_17) (by decide) rfl ?_
    refine own_bipush X4 hx (78 : Int32) (hb hby own_d_method_2_code_18) (by decide) rfl ?_
    refine own_stC X4 hx hZ e4 V4 ⟨by decide, by decide⟩ 1 rfl (Nat.le_of_ble_eq_true rfl) (by decide) N4 g_b2 (hb hby own_d_method_2_code_20) rfl ?_
    intro T6 h6 X6 e6 W6 N6 V6
    have K7 := K5.wr W6 (Or.inr sz_b2)
    refine own_dup X6 hx (hb hby own_d_method_2_code_21) rfl rfl ?_
    refine own_iconst X6 hx (2 : Int32) (hb hby own_d_method_2_code_22) (by decide) rfl ?_
    refine own_bipush X6 hx (70 : Int32) (hb hby own_d_method_2_code_23) (by decide) rfl ?_
    refine own_stC X6 hx hZ e6 V6 ⟨by decide, by decide⟩ 2 rfl (Nat.le_of_ble_eq_true rfl) (by decide) N6 g_b2 (hb hby own_d_method_2_code_25) rfl ?_
    intro T8 h8 X8 e8 W8 N8 V8
    have K9 := K7.wr W8 (Or.inr sz_b2)
    refine own_dup X8 hx (hb hby own_d_method_2_code_26) rfl rfl ?_
    refine own_iconst X8 hx (3 : Int32) (hb hby own_d_method_2_code_27) (by decide) rfl ?_
    refine own_bipush X8 hx (45 : Int32) (hb hby own_d_method_2_code_28) (by decide) rfl ?_
    refine own_stC X8 hx hZ e8 V8 ⟨by decide, by decide⟩ 3 rfl (Nat.le_of_ble_eq_true rfl) (by decide) N8 g_b2 (hb hby own_d_method_2_code_30) rfl ?_
    intro T10 h10 X10 e10 W10 N10 V10
    have K11 := K9.wr W10 (Or.inr sz_b2)
    refine own_dup X10 hx (hb hby own_d_method_2_code_31) rfl rfl ?_
    refine own_iconst X10 hx (4 : Int32) (hb hby own_d_method_2_code_32) (by decide) rfl ?_
    refine own_bipush X10 hx (97 : Int32) (hb hby own_d_method_2_code_33) (by decide) rfl ?_
    refine own_stC X10 hx hZ e10 V10 ⟨by decide, by decide⟩ 4 rfl (Nat.le_of_ble_eq_true rfl) (by decide) N10 g_b2 (hb hby own_d_method_2_code_35) rfl ?_
    intro T12 h12 X12 e12 W12 N12 V12
    have K13 := K11.wr W12 (Or.inr sz_b2)
    refine own_dup X12 hx (hb hby own_d_method_2_code_36) rfl rfl ?_
    refine own_iconst X12 hx (5 : Int32) (hb hby own_d_method_2_code_37) (by decide) rfl ?_
    refine own_bipush X12 hx (110 : Int32) (hb hby own_d_method_2_code_38) (by decide) rfl ?_
    refine own_stC X12 hx hZ e12 V12 ⟨by decide, by decide⟩ 5 rfl (Nat.le_of_ble_eq_true rfl) (by decide) N12 g_b2 (hb hby own_d_method_2_code_40) rfl ?_
    intro T14 h14 X14 e14 W14 N14 V14
    have K15 := K13.wr W14 (Or.inr sz_b2)
    refine own_dup X14 hx (hb hby own_d_method_2_code_41) rfl rfl ?_
    refine own_bipush X14 hx (6 : Int32) (hb hby own_d_method_2_code_42) (by decide) rfl ?_
    refine own_bipush X14 hx (105 : Int32) (hb hby own_d_method_2_code_44) (by decide) rfl ?_
    refine own_stC X14 hx hZ e14 V14 ⟨by decide, by decide⟩ 6 rfl (Nat.le_of_ble_eq_true rfl) (by decide) N14 g_b2 (hb hby own_d_method_2_code_46) rfl ?_
    intro T16 h16 X16 e16 W16 N16 V16
    have K17 := K15.wr W16 (Or.inr sz_b2)
    refine own_dup X16 hx (hb hby own_d_method_2_code_47) rfl rfl ?_
    refine own_bipush X16 hx (7 : Int32) (hb hby own_d_method_2_code_48) (by decide) rfl ?_
    refine own_bipush X16 hx (102 : Int32) (hb hby own_d_method_2_code_50) (by decide) rfl ?_
    refine own_stC X16 hx hZ e16 V16 ⟨by decide, by decide⟩ 7 rfl (Nat.le_of_ble_eq_true rfl) (by decide) N16 g_b2 (hb hby own_d_method_2_code_52) rfl ?_
    intro T18 h18 X18 e18 W18 N18 V18
    have K19 := K17.wr W18 (Or.inr sz_b2)
    refine own_astoreN X18 hx #[.val (.int p1), .val (.ref b2)] (hb hby own_d_method_2_code_53) rfl rfl rfl ?_
    refine own_aloadN X18 hx (hb hby own_d_method_2_code_54) rfl rfl rfl ?_
    refine own_iloadN X18 hx (hb hby own_d_method_2_code_55) rfl rfl ?_
    refine own_bipush X18 hx (21 : Int32) (hb hby own_d_method_2_code_56) (by decide) rfl ?_
    refine own_iushr X18 hx (hb hby own_d_method_2_code_58) rfl ?_
    refine own_bipush X18 hx (7 : Int32) (hb hby own_d_method_2_code_59) (by decide) rfl ?_
    refine own_iand X18 hx (hb hby own_d_method_2_code_61) rfl ?_
    refine own_caload X18 hx hZ e18 V18 (own_m7 (own_ushr p1 (21 : Int32))) (own_getI ([(73 : Int32), (78 : Int32), (70 : Int32), (45 : Int32), (97 : Int32), (110 : Int32), (105 : Int32), (102 : Int32)] : List Int32) _) (hb hby own_d_method_2_code_62) rfl ?_
    have hcc := own_getB (P := fun c => ¬ c < 0 ∧ ¬ (65535 : Int32) < c) ([(73 : Int32), (78 : Int32), (70 : Int32), (45 : Int32), (97 : Int32), (110 : Int32), (105 : Int32), (102 : Int32)] : List Int32) (by decide) (by decide) (((own_ushr p1 (21 : Int32)) &&& (7 : Int32)).toNatClampNeg)
    generalize (([(73 : Int32), (78 : Int32), (70 : Int32), (45 : Int32), (97 : Int32), (110 : Int32), (105 : Int32), (102 : Int32)] : List Int32).getD ((own_ushr p1 (21 : Int32)) &&& (7 : Int32)).toNatClampNeg 0) = cc at hcc ⊢
    exact own_retN X18 hx hlocks hret (by simp) (hb hby own_d_method_2_code_63) (by decide) (by decide) (own_narC2 hcc) ⟨cc, rfl, hcc, N18, by rw [e18]; exact K19⟩
set_option maxRecDepth 65536 in
set_option maxHeartbeats 40000000 in
theorem own_make (l : Launch) (Z : State) (a0 : Array Value) (hw : ∀ d ∈ tables_1, d.before a0 Z = true) (p1 zc x0 x1 x2 x3 x4 : Int32) (h0 : Heap) (n0 : Nat) (hEL : EW Z a0 consts_1) (O0 : Old Z n0 h0) (SC : Sta Z Z.heap "java/lang/String" "COMPACT_STRINGS" "Z" (.int zc)) (hzc : ¬ zc = 0) (SA : Sta Z Z.heap "java/lang/StringUTF16" "$assertionsDisabled" "Z" (.int (1 : Int32))) (SH : Sta Z Z.heap "java/lang/StringUTF16" "HI_BYTE_SHIFT" "I" (.int (0 : Int32))) (SL : Sta Z Z.heap "java/lang/StringUTF16" "LO_BYTE_SHIFT" "I" (.int (8 : Int32))) (hx0 : ¬ x0 < 0 ∧ ¬ (65535 : Int32) < x0) (hx1 : ¬ x1 < 0 ∧ ¬ (65535 : Int32) < x1) (hx2 : ¬ x2 < 0 ∧ ¬ (65535 : Int32) < x2) (hx3 : ¬ x3 < 0 ∧ ¬ (65535 : Int32) < x3) (hx4 : ¬ x4 < 0 ∧ ¬ (65535 : Int32) < x4) :
    own_MetH l (⟨"com/example/pincio/pincio/core/CanonicalLiteralsIsSpecialPinLaw", "make", "(ICCCCC)Ljava/lang/String;"⟩ : MethodName) method_3_code 6 (some (.object "java/lang/String")) ({ frames := 6, cells := 6, slots := 24, locals := 88 } : Room) Z consts_1 #[(.int p1), (.int x0), (.int x1), (.int x2), (.int x3), (.int x4)] h0 (fun v h L => ∃ a : Addr, v = some (.ref a) ∧ Fr n0 L ∧ Keep h0 h [] ∧ own_Str Z h a (own_mk p1 x0 x1 x2 x3 x4)) := by
  refine own_metH (plainFor_of_name own_pn_com_example_pincio_pincio_core_CanonicalLiteralsIsSpecialPinLaw) ?_
  intro p e s m below meth c T0 hx hby hml hZ hown hnm hret hlocks X0 e0 hh0 HH0
  have ef : entryFrame m #[(.int p1), (.int x0), (.int x1), (.int x2), (.int x3), (.int x4)] 6 = mkF m 0 #[.val (.int p1), .val (.int x0), .val (.int x1), .val (.int x2), .val (.int x3), .val (.int x4)] [] := by first | (simp [entryFrame, mkF, argsToLocals, Value.category]; done) | rfl
  refine own_entry ef ?_
  have N0 := Fr.nil n0
  have K0 := Keep.refl h0 []
  have hwS := own_hwS hw
  refine own_iloadN X0 hx (hb hby own_d_method_3_code_0) rfl rfl ?_
  refine own_if_ne X0 hx (hb hby own_d_method_3_code_1) (by decide) rfl rfl (fun hc1_1 => ?_) (fun hc1_1 => ?_)
  · refine own_iloadN X0 hx (hb hby own_d_method_3_code_15) rfl rfl ?_
    refine own_iconst X0 hx (1 : Int32) (hb hby own_d_method_3_code_16) (by decide) rfl ?_
    refine own_icmp_ne X0 hx (hb hby own_d_method_3_code_17) (by decide) rfl rfl (fun hc17_2 => ?_) (fun hc17_2 => ?_)
    · refine own_iloadN X0 hx (hb hby own_d_method_3_code_35) rfl rfl ?_
      refine own_iconst X0 hx (2 : Int32) (hb hby own_d_method_3_code_36) (by decide) rfl ?_
      refine own_icmp_ne X0 hx (hb hby own_d_method_3_code_37) (by decide) rfl rfl (fun hc37_3 => ?_) (fun hc37_3 => ?_)
      · refine own_iloadN X0 hx (hb hby own_d_method_3_code_59) rfl rfl ?_
        refine own_iconst X0 hx (3 : Int32) (hb hby own_d_method_3_code_60) (by decide) rfl ?_
        refine own_icmp_ne X0 hx (hb hby own_d_method_3_code_61) (by decide) rfl rfl (fun hc61_4 => ?_) (fun hc61_4 => ?_)
        · refine own_iloadN X0 hx (hb hby own_d_method_3_code_87) rfl rfl ?_
          refine own_iconst X0 hx (4 : Int32) (hb hby own_d_method_3_code_88) (by decide) rfl ?_
          refine own_icmp_ne X0 hx (hb hby own_d_method_3_code_89) (by decide) rfl rfl (fun hc89_5 => ?_) (fun hc89_5 => ?_)
          · refine own_new X0 hx hZ hown (hw _ (List.mem_of_getElem? (i := 10) rfl)) (hw _ (List.mem_of_getElem? (i := 11) rfl)) (hw _ (List.mem_of_getElem? (i := 12) rfl)) e0 (hb hby own_d_method_3_code_120) (by decide) (by decide) rfl ?_
            intro T6 h6 b6 X6 e6 g6 E6 A6 D6
            have g_b6 : n0 ≤ b6 := Nat.le_trans (own_oz O0) (Nat.le_of_eq g6.symm)
            have sz_b6 : h0.size ≤ b6 := Nat.le_trans K0.1 (Nat.le_of_eq g6.symm)
            have HH7 := HH0.ext E6
            have K8 := K0.ext E6
            have Y_b6 := own_sfN g6 E6 HH0
            have Fb6_value : Fld Z h6 b6 "java/lang/String" "value" "[B" .null := D6 (Or.inr (hw _ (List.mem_of_getElem? (i := 26) rfl))) (ty := (.array .byte)) (by decide)
            have Fb6_coder : Fld Z h6 b6 "java/lang/String" "coder" "B" (.int (0 : Int32)) := D6 (Or.inr (hw _ (List.mem_of_getElem? (i := 27) rfl))) (ty := .byte) (by decide)
            refine own_dup X6 hx (hb hby own_d_method_3_code_123) rfl rfl ?_
            refine own_iconst X6 hx (5 : Int32) (hb hby own_d_method_3_code_124) (by decide) rfl ?_
            refine own_newP X6 hx hZ (aty := .char) (hw _ (List.mem_of_getElem? (i := 13) rfl)) e6 (hb hby own_d_method_3_code_125) (by decide) 5 (by decide) (by decide) (by decide) (by decide) rfl ?_
            intro T9 h9 b9 k9 X9 e9 g9 E9 V9q
            have f10 := (O0.ext E6)
            have g_b9 : n0 ≤ b9 := Nat.le_trans (own_oz f10) (Nat.le_of_eq g9.symm)
            have sz_b9 : h0.size ≤ b9 := Nat.le_trans K8.1 (Nat.le_of_eq g9.symm)
            have HH11 := HH7.ext E9
            have K12 := K8.ext E9
            have V9 : Arv Z h9 b9 k9 .char (5 : Int32) [(.int (0 : Int32)), (.int (0 : Int32)), (.int (0 : Int32)), (.int (0 : Int32)), (.int (0 : Int32))] (.int (0 : Int32)) := Arv.pad V9q (pad_rep [] (.int (0 : Int32)) 5)
            refine own_dup X9 hx (hb hby own_d_method_3_code_127) rfl rfl ?_
            refine own_iconst X9 hx (0 : Int32) (hb hby own_d_method_3_code_128) (by decide) rfl ?_
            refine own_iloadN X9 hx (hb hby own_d_method_3_code_129) rfl rfl ?_
            refine own_stC X9 hx hZ e9 V9 ⟨by decide, by decide⟩ 0 rfl (Nat.le_of_ble_eq_true rfl) (own_narC2 hx0) N0 g_b9 (hb hby own_d_method_3_code_130) rfl ?_
            intro T13 h13 X13 e13 W13 N13 V13
            have HH14 := HH11.wr W13 (Safe.arv hZ.alike V9 (by decide))
            have K15 := K12.wr W13 (Or.inr sz_b9)
            refine own_dup X13 hx (hb hby own_d_method_3_code_131) rfl rfl ?_
            refine own_iconst X13 hx (1 : Int32) (hb hby own_d_method_3_code_132) (by decide) rfl ?_
            refine own_iloadN X13 hx (hb hby own_d_method_3_code_133) rfl rfl ?_
            refine own_stC X13 hx hZ e13 V13 ⟨by decide, by decide⟩ 1 rfl (Nat.le_of_ble_eq_true rfl) (own_narC2 hx1) N13 g_b9 (hb hby own_d_method_3_code_134) rfl ?_
            intro T16 h16 X16 e16 W16 N16 V16
            have HH17 := HH14.wr W16 (Safe.arv hZ.alike V13 (by decide))
            have K18 := K15.wr W16 (Or.inr sz_b9)
            refine own_dup X16 hx (hb hby own_d_method_3_code_135) rfl rfl ?_
            refine own_iconst X16 hx (2 : Int32) (hb hby own_d_method_3_code_136) (by decide) rfl ?_
            refine own_iloadN X16 hx (hb hby own_d_method_3_code_137) rfl rfl ?_
            refine own_stC X16 hx hZ e16 V16 ⟨by decide, by decide⟩ 2 rfl (Nat.le_of_ble_eq_true rfl) (own_narC2 hx2) N16 g_b9 (hb hby own_d_method_3_code_138) rfl ?_
            intro T19 h19 X19 e19 W19 N19 V19
            have HH20 := HH17.wr W19 (Safe.arv hZ.alike V16 (by decide))
            have K21 := K18.wr W19 (Or.inr sz_b9)
            refine own_dup X19 hx (hb hby own_d_method_3_code_139) rfl rfl ?_
            refine own_iconst X19 hx (3 : Int32) (hb hby own_d_method_3_code_140) (by decide) rfl ?_
            refine own_iload X19 hx (hb hby own_d_method_3_code_141) rfl rfl ?_
            refine own_stC X19 hx hZ e19 V19 ⟨by decide, by decide⟩ 3 rfl (Nat.le_of_ble_eq_true rfl) (own_narC2 hx3) N19 g_b9 (hb hby own_d_method_3_code_143) rfl ?_
            intro T22 h22 X22 e22 W22 N22 V22
            have HH23 := HH20.wr W22 (Safe.arv hZ.alike V19 (by decide))
            have K24 := K21.wr W22 (Or.inr sz_b9)
            refine own_dup X22 hx (hb hby own_d_method_3_code_144) rfl rfl ?_
            refine own_iconst X22 hx (4 : Int32) (hb hby own_d_method_3_code_145) (by decide) rfl ?_
            refine own_iload X22 hx (hb hby own_d_method_3_code_146) rfl rfl ?_
            refine own_stC X22 hx hZ e22 V22 ⟨by decide, by decide⟩ 4 rfl (Nat.le_of_ble_eq_true rfl) (own_narC2 hx4) N22 g_b9 (hb hby own_d_method_3_code_148) rfl ?_
            intro T25 h25 X25 e25 W25 N25 V25
            have HH26 := HH23.wr W25 (Safe.arv hZ.alike V22 (by decide))
            have K27 := K24.wr W25 (Or.inr sz_b9)
            rcases own_wideOr5 x0 x1 x2 x3 x4 with ⟨hl0, hl1, hl2, hl3, hl4⟩ | HB
            · have hp_b6 : ∀ c ∈ ([x0, x1, x2, x3, x4] : List Int32), ¬ c < 0 ∧ ¬ (255 : Int32) < c := (own_c2 ⟨hx0.1, hl0⟩ (own_c2 ⟨hx1.1, hl1⟩ (own_c2 ⟨hx2.1, hl2⟩ (own_c2 ⟨hx3.1, hl3⟩ (own_c2 ⟨hx4.1, hl4⟩ own_c0)))))
              have f28 := ((((((A6.ext E9).wr W13).wr W16).wr W19).wr W22).wr W25)
              have f29 := ((((((Fb6_value.ext E9).other W13 (Or.inl (Nat.ne_of_lt (Nat.lt_of_lt_of_le A6.lt (Nat.le_of_eq g9.symm))))).other W16 (Or.inl (Nat.ne_of_lt (Nat.lt_of_lt_of_le A6.lt (Nat.le_of_eq g9.symm))))).other W19 (Or.inl (Nat.ne_of_lt (Nat.lt_of_lt_of_le A6.lt (Nat.le_of_eq g9.symm))))).other W22 (Or.inl (Nat.ne_of_lt (Nat.lt_of_lt_of_le A6.lt (Nat.le_of_eq g9.symm))))).other W25 (Or.inl (Nat.ne_of_lt (Nat.lt_of_lt_of_le A6.lt (Nat.le_of_eq g9.symm)))))
              have f30 := ((((((Fb6_coder.ext E9).other W13 (Or.inl (Nat.ne_of_lt (Nat.lt_of_lt_of_le A6.lt (Nat.le_of_eq g9.symm))))).other W16 (Or.inl (Nat.ne_of_lt (Nat.lt_of_lt_of_le A6.lt (Nat.le_of_eq g9.symm))))).other W19 (Or.inl (Nat.ne_of_lt (Nat.lt_of_lt_of_le A6.lt (Nat.le_of_eq g9.symm))))).other W22 (Or.inl (Nat.ne_of_lt (Nat.lt_of_lt_of_le A6.lt (Nat.le_of_eq g9.symm))))).other W25 (Or.inl (Nat.ne_of_lt (Nat.lt_of_lt_of_le A6.lt (Nat.le_of_eq g9.symm)))))
              have f31 := ((((((f10.ext E9).wr W13 g_b9).wr W16 g_b9).wr W19 g_b9).wr W22 g_b9).wr W25 g_b9)
              have f32 := (own_sfW (own_sfW (own_sfW (own_sfW (own_sfW (own_sfE Y_b6 E9 HH7) W13 (Safe.arv hZ.alike V9 (by decide)) HH11) W16 (Safe.arv hZ.alike V13 (by decide)) HH14) W19 (Safe.arv hZ.alike V16 (by decide)) HH17) W22 (Safe.arv hZ.alike V19 (by decide)) HH20) W25 (Safe.arv hZ.alike V22 (by decide)) HH23)
              refine own_specialB X25 hx hZ (y := (⟨"java/lang/String", "<init>", "([C)V"⟩ : MethodName)) rfl hown (hw _ (List.mem_of_getElem? (i := 14) rfl)) (hw _ (List.mem_of_getElem? (i := 15) rfl)) (hw _ (List.mem_of_getElem? (i := 16) rfl)) (by decide) e25 (W := 1) (ce := 1) (sl := 5) (by decide) (by decide) [(.ref b9)] [(.ref b6)] (by rw [hml]; rfl) (a := b6) (StrChars.Road.QV Z b6 (5 : Int32) (([x0, x1, x2, x3, x4] : List Int32).map (fun c => c.toInt8.toInt32)) h25 n0) (StrChars.Road.backV (W := 1) hZ (own_hws hw) (kI := 4) (hw _ (List.mem_of_getElem? (i := 11) rfl)) (cs := ([x0, x1, x2, x3, x4] : List Int32)) (bs := (([x0, x1, x2, x3, x4] : List Int32).map (fun c => c.toInt8.toInt32))) (n := 5) g_b6 (own_oz f31) f28 f29 f30 V25 (SC.ext f31.2) hzc rfl rfl (by decide) (by decide) hp_b6 rfl (by decide) (by decide)) own_pd8 rfl rfl rfl (hb hby own_d_method_3_code_149) rfl ?_
              intro v33 T33 L33 X33 hQ33
              obtain ⟨rfl, Nq33, Kq33, Es33, Cs33, t33, kb33, gt33, st33, nt33, Vs33, Ks33⟩ := hQ33
              have N33 := Fr.app N25 Nq33
              have HH34 := HH26.keep Kq33 (sfS f32 sf0)
              have K35 := K27.trans Kq33 (allS (Or.inr sz_b6) all0)
              have co33 : StrChars.Road.CodA ([x0, x1, x2, x3, x4] : List Int32) 0 (5 : Int32) (((([x0, x1, x2, x3, x4] : List Int32).map (fun c => c.toInt8.toInt32))).map Value.int) := StrChars.Road.codOf (n := 5) rfl (fun c hc => (hp_b6 c hc).2)
              have hb33 := own_up hp_b6
              show own_Ends p e below _ (T33.setTop (mkF m 152 #[.val (.int p1), .val (.int x0), .val (.int x1), .val (.int x2), .val (.int x3), .val (.int x4)] [(.ref b6)]))
              exact own_retAH X33 hx hZ rfl HH34 hEL hlocks hret rfl rfl (hb hby own_d_method_3_code_152) (by decide) (by decide) ⟨b6, rfl, N33, by exact ⟨K35, (by rw [show own_mk p1 x0 x1 x2 x3 x4 = ([x0, x1, x2, x3, x4] : List Int32) from by simp only [own_mk, if_neg hc1_1, if_neg hc17_2, if_neg hc37_3, if_neg hc61_4, if_neg hc89_5]]; exact ⟨_, _, _, _, _, Es33, Vs33, Cs33, Ks33, co33, hb33, (Nat.le_of_ble_eq_true rfl)⟩)⟩⟩
            · have f36 := (own_sfW (own_sfW (own_sfW (own_sfW (own_sfW (own_sfE Y_b6 E9 HH7) W13 (Safe.arv hZ.alike V9 (by decide)) HH11) W16 (Safe.arv hZ.alike V13 (by decide)) HH14) W19 (Safe.arv hZ.alike V16 (by decide)) HH17) W22 (Safe.arv hZ.alike V19 (by decide)) HH20) W25 (Safe.arv hZ.alike V22 (by decide)) HH23)
              have f37 := ((((((f10.ext E9).wr W13 g_b9).wr W16 g_b9).wr W19 g_b9).wr W22 g_b9).wr W25 g_b9)
              have f38 := ((((((A6.ext E9).wr W13).wr W16).wr W19).wr W22).wr W25)
              have f39 := ((((((Fb6_value.ext E9).other W13 (Or.inl (Nat.ne_of_lt (Nat.lt_of_lt_of_le A6.lt (Nat.le_of_eq g9.symm))))).other W16 (Or.inl (Nat.ne_of_lt (Nat.lt_of_lt_of_le A6.lt (Nat.le_of_eq g9.symm))))).other W19 (Or.inl (Nat.ne_of_lt (Nat.lt_of_lt_of_le A6.lt (Nat.le_of_eq g9.symm))))).other W22 (Or.inl (Nat.ne_of_lt (Nat.lt_of_lt_of_le A6.lt (Nat.le_of_eq g9.symm))))).other W25 (Or.inl (Nat.ne_of_lt (Nat.lt_of_lt_of_le A6.lt (Nat.le_of_eq g9.symm)))))
              have f40 := ((((((Fb6_coder.ext E9).other W13 (Or.inl (Nat.ne_of_lt (Nat.lt_of_lt_of_le A6.lt (Nat.le_of_eq g9.symm))))).other W16 (Or.inl (Nat.ne_of_lt (Nat.lt_of_lt_of_le A6.lt (Nat.le_of_eq g9.symm))))).other W19 (Or.inl (Nat.ne_of_lt (Nat.lt_of_lt_of_le A6.lt (Nat.le_of_eq g9.symm))))).other W22 (Or.inl (Nat.ne_of_lt (Nat.lt_of_lt_of_le A6.lt (Nat.le_of_eq g9.symm))))).other W25 (Or.inl (Nat.ne_of_lt (Nat.lt_of_lt_of_le A6.lt (Nat.le_of_eq g9.symm)))))
              refine own_special X25 hx hZ (y := (⟨"java/lang/String", "<init>", "([C)V"⟩ : MethodName)) rfl hown (hw _ (List.mem_of_getElem? (i := 14) rfl)) (hw _ (List.mem_of_getElem? (i := 15) rfl)) (hw _ (List.mem_of_getElem? (i := 12) rfl)) (hw _ (List.mem_of_getElem? (i := 16) rfl)) (by decide) e25 (by decide) (W := 1) (by decide) (by decide) (by decide) [(.ref b9)] [(.ref b6)] (by rw [hml]; rfl) (a := b6) (own_wd5 l Z a0 hw b6 zc b9 _ x0 x1 x2 x3 x4 h25 n0 f37 SC hzc SA SH SL hx0 hx1 hx2 hx3 hx4 g_b6 f38 f39 f40 V25 HB) own_pd8 rfl rfl rfl (hb hby own_d_method_3_code_149) rfl ?_
              intro v41 T41 L41 X41 hQ41
              obtain ⟨rfl, Nq41, Kq41, Ss41⟩ := hQ41
              have N41 := Fr.app N25 Nq41
              have HH42 := HH26.keep Kq41 (sfS f36 sf0)
              have K43 := K27.trans Kq41 (allS (Or.inr sz_b6) all0)
              obtain ⟨t41, kb41, cd41, Nn41, vs41, Es41, Vs41, Cs41, Ks41, cod41, hbd41, hle41⟩ := Ss41
              show own_Ends p e below _ (T41.setTop (mkF m 152 #[.val (.int p1), .val (.int x0), .val (.int x1), .val (.int x2), .val (.int x3), .val (.int x4)] [(.ref b6)]))
              exact own_retAH X41 hx hZ rfl HH42 hEL hlocks hret rfl rfl (hb hby own_d_method_3_code_152) (by decide) (by decide) ⟨b6, rfl, N41, by exact ⟨K43, (by rw [show own_mk p1 x0 x1 x2 x3 x4 = ([x0, x1, x2, x3, x4] : List Int32) from by simp only [own_mk, if_neg hc1_1, if_neg hc17_2, if_neg hc37_3, if_neg hc61_4, if_neg hc89_5]]; exact ⟨_, _, _, _, _, Es41, Vs41, Cs41, Ks41, cod41, hbd41, hle41⟩)⟩⟩
          · refine own_new X0 hx hZ hown (hw _ (List.mem_of_getElem? (i := 10) rfl)) (hw _ (List.mem_of_getElem? (i := 11) rfl)) (hw _ (List.mem_of_getElem? (i := 12) rfl)) e0 (hb hby own_d_method_3_code_92) (by decide) (by decide) rfl ?_
            intro T44 h44 b44 X44 e44 g44 E44 A44 D44
            have g_b44 : n0 ≤ b44 := Nat.le_trans (own_oz O0) (Nat.le_of_eq g44.symm)
            have sz_b44 : h0.size ≤ b44 := Nat.le_trans K0.1 (Nat.le_of_eq g44.symm)
            have HH45 := HH0.ext E44
            have K46 := K0.ext E44
            have Y_b44 := own_sfN g44 E44 HH0
            have Fb44_value : Fld Z h44 b44 "java/lang/String" "value" "[B" .null := D44 (Or.inr (hw _ (List.mem_of_getElem? (i := 26) rfl))) (ty := (.array .byte)) (by decide)
            have Fb44_coder : Fld Z h44 b44 "java/lang/String" "coder" "B" (.int (0 : Int32)) := D44 (Or.inr (hw _ (List.mem_of_getElem? (i := 27) rfl))) (ty := .byte) (by decide)
            refine own_dup X44 hx (hb hby own_d_method_3_code_95) rfl rfl ?_
            refine own_iconst X44 hx (4 : Int32) (hb hby own_d_method_3_code_96) (by decide) rfl ?_
            refine own_newP X44 hx hZ (aty := .char) (hw _ (List.mem_of_getElem? (i := 13) rfl)) e44 (hb hby own_d_method_3_code_97) (by decide) 4 (by decide) (by decide) (by decide) (by decide) rfl ?_
            intro T47 h47 b47 k47 X47 e47 g47 E47 V47q
            have f48 := (O0.ext E44)
            have g_b47 : n0 ≤ b47 := Nat.le_trans (own_oz f48) (Nat.le_of_eq g47.symm)
            have sz_b47 : h0.size ≤ b47 := Nat.le_trans K46.1 (Nat.le_of_eq g47.symm)
            have HH49 := HH45.ext E47
            have K50 := K46.ext E47
            have V47 : Arv Z h47 b47 k47 .char (4 : Int32) [(.int (0 : Int32)), (.int (0 : Int32)), (.int (0 : Int32)), (.int (0 : Int32))] (.int (0 : Int32)) := Arv.pad V47q (pad_rep [] (.int (0 : Int32)) 4)
            refine own_dup X47 hx (hb hby own_d_method_3_code_99) rfl rfl ?_
            refine own_iconst X47 hx (0 : Int32) (hb hby own_d_method_3_code_100) (by decide) rfl ?_
            refine own_iloadN X47 hx (hb hby own_d_method_3_code_101) rfl rfl ?_
            refine own_stC X47 hx hZ e47 V47 ⟨by decide, by decide⟩ 0 rfl (Nat.le_of_ble_eq_true rfl) (own_narC2 hx0) N0 g_b47 (hb hby own_d_method_3_code_102) rfl ?_
            intro T51 h51 X51 e51 W51 N51 V51
            have HH52 := HH49.wr W51 (Safe.arv hZ.alike V47 (by decide))
            have K53 := K50.wr W51 (Or.inr sz_b47)
            refine own_dup X51 hx (hb hby own_d_method_3_code_103) rfl rfl ?_
            refine own_iconst X51 hx (1 : Int32) (hb hby own_d_method_3_code_104) (by decide) rfl ?_
            refine own_iloadN X51 hx (hb hby own_d_method_3_code_105) rfl rfl ?_
            refine own_stC X51 hx hZ e51 V51 ⟨by decide, by decide⟩ 1 rfl (Nat.le_of_ble_eq_true rfl) (own_narC2 hx1) N51 g_b47 (hb hby own_d_method_3_code_106) rfl ?_
            intro T54 h54 X54 e54 W54 N54 V54
            have HH55 := HH52.wr W54 (Safe.arv hZ.alike V51 (by decide))
            have K56 := K53.wr W54 (Or.inr sz_b47)
            refine own_dup X54 hx (hb hby own_d_method_3_code_107) rfl rfl ?_
            refine own_iconst X54 hx (2 : Int32) (hb hby own_d_method_3_code_108) (by decide) rfl ?_
            refine own_iloadN X54 hx (hb hby own_d_method_3_code_109) rfl rfl ?_
            refine own_stC X54 hx hZ e54 V54 ⟨by decide, by decide⟩ 2 rfl (Nat.le_of_ble_eq_true rfl) (own_narC2 hx2) N54 g_b47 (hb hby own_d_method_3_code_110) rfl ?_
            intro T57 h57 X57 e57 W57 N57 V57
            have HH58 := HH55.wr W57 (Safe.arv hZ.alike V54 (by decide))
            have K59 := K56.wr W57 (Or.inr sz_b47)
            refine own_dup X57 hx (hb hby own_d_method_3_code_111) rfl rfl ?_
            refine own_iconst X57 hx (3 : Int32) (hb hby own_d_method_3_code_112) (by decide) rfl ?_
            refine own_iload X57 hx (hb hby own_d_method_3_code_113) rfl rfl ?_
            refine own_stC X57 hx hZ e57 V57 ⟨by decide, by decide⟩ 3 rfl (Nat.le_of_ble_eq_true rfl) (own_narC2 hx3) N57 g_b47 (hb hby own_d_method_3_code_115) rfl ?_
            intro T60 h60 X60 e60 W60 N60 V60
            have HH61 := HH58.wr W60 (Safe.arv hZ.alike V57 (by decide))
            have K62 := K59.wr W60 (Or.inr sz_b47)
            rcases own_wideOr4 x0 x1 x2 x3 with ⟨hl0, hl1, hl2, hl3⟩ | HB
            · have hp_b44 : ∀ c ∈ ([x0, x1, x2, x3] : List Int32), ¬ c < 0 ∧ ¬ (255 : Int32) < c := (own_c2 ⟨hx0.1, hl0⟩ (own_c2 ⟨hx1.1, hl1⟩ (own_c2 ⟨hx2.1, hl2⟩ (own_c2 ⟨hx3.1, hl3⟩ own_c0))))
              have f63 := (((((A44.ext E47).wr W51).wr W54).wr W57).wr W60)
              have f64 := (((((Fb44_value.ext E47).other W51 (Or.inl (Nat.ne_of_lt (Nat.lt_of_lt_of_le A44.lt (Nat.le_of_eq g47.symm))))).other W54 (Or.inl (Nat.ne_of_lt (Nat.lt_of_lt_of_le A44.lt (Nat.le_of_eq g47.symm))))).other W57 (Or.inl (Nat.ne_of_lt (Nat.lt_of_lt_of_le A44.lt (Nat.le_of_eq g47.symm))))).other W60 (Or.inl (Nat.ne_of_lt (Nat.lt_of_lt_of_le A44.lt (Nat.le_of_eq g47.symm)))))
              have f65 := (((((Fb44_coder.ext E47).other W51 (Or.inl (Nat.ne_of_lt (Nat.lt_of_lt_of_le A44.lt (Nat.le_of_eq g47.symm))))).other W54 (Or.inl (Nat.ne_of_lt (Nat.lt_of_lt_of_le A44.lt (Nat.le_of_eq g47.symm))))).other W57 (Or.inl (Nat.ne_of_lt (Nat.lt_of_lt_of_le A44.lt (Nat.le_of_eq g47.symm))))).other W60 (Or.inl (Nat.ne_of_lt (Nat.lt_of_lt_of_le A44.lt (Nat.le_of_eq g47.symm)))))
              have f66 := (((((f48.ext E47).wr W51 g_b47).wr W54 g_b47).wr W57 g_b47).wr W60 g_b47)
              have f67 := (own_sfW (own_sfW (own_sfW (own_sfW (own_sfE Y_b44 E47 HH45) W51 (Safe.arv hZ.alike V47 (by decide)) HH49) W54 (Safe.arv hZ.alike V51 (by decide)) HH52) W57 (Safe.arv hZ.alike V54 (by decide)) HH55) W60 (Safe.arv hZ.alike V57 (by decide)) HH58)
              refine own_specialB X60 hx hZ (y := (⟨"java/lang/String", "<init>", "([C)V"⟩ : MethodName)) rfl hown (hw _ (List.mem_of_getElem? (i := 14) rfl)) (hw _ (List.mem_of_getElem? (i := 15) rfl)) (hw _ (List.mem_of_getElem? (i := 16) rfl)) (by decide) e60 (W := 1) (ce := 1) (sl := 4) (by decide) (by decide) [(.ref b47)] [(.ref b44)] (by rw [hml]; rfl) (a := b44) (StrChars.Road.QV Z b44 (4 : Int32) (([x0, x1, x2, x3] : List Int32).map (fun c => c.toInt8.toInt32)) h60 n0) (StrChars.Road.backV (W := 1) hZ (own_hws hw) (kI := 4) (hw _ (List.mem_of_getElem? (i := 11) rfl)) (cs := ([x0, x1, x2, x3] : List Int32)) (bs := (([x0, x1, x2, x3] : List Int32).map (fun c => c.toInt8.toInt32))) (n := 4) g_b44 (own_oz f66) f63 f64 f65 V60 (SC.ext f66.2) hzc rfl rfl (by decide) (by decide) hp_b44 rfl (by decide) (by decide)) own_pd8 rfl rfl rfl (hb hby own_d_method_3_code_116) rfl ?_
              intro v68 T68 L68 X68 hQ68
              obtain ⟨rfl, Nq68, Kq68, Es68, Cs68, t68, kb68, gt68, st68, nt68, Vs68, Ks68⟩ := hQ68
              have N68 := Fr.app N60 Nq68
              have HH69 := HH61.keep Kq68 (sfS f67 sf0)
              have K70 := K62.trans Kq68 (allS (Or.inr sz_b44) all0)
              have co68 : StrChars.Road.CodA ([x0, x1, x2, x3] : List Int32) 0 (4 : Int32) (((([x0, x1, x2, x3] : List Int32).map (fun c => c.toInt8.toInt32))).map Value.int) := StrChars.Road.codOf (n := 4) rfl (fun c hc => (hp_b44 c hc).2)
              have hb68 := own_up hp_b44
              show own_Ends p e below _ (T68.setTop (mkF m 119 #[.val (.int p1), .val (.int x0), .val (.int x1), .val (.int x2), .val (.int x3), .val (.int x4)] [(.ref b44)]))
              exact own_retAH X68 hx hZ rfl HH69 hEL hlocks hret rfl rfl (hb hby own_d_method_3_code_119) (by decide) (by decide) ⟨b44, rfl, N68, by exact ⟨K70, (by rw [show own_mk p1 x0 x1 x2 x3 x4 = ([x0, x1, x2, x3] : List Int32) from by simp only [own_mk, if_neg hc1_1, if_neg hc17_2, if_neg hc37_3, if_neg hc61_4, if_pos hc89_5]]; exact ⟨_, _, _, _, _, Es68, Vs68, Cs68, Ks68, co68, hb68, (Nat.le_of_ble_eq_true rfl)⟩)⟩⟩
            · have f71 := (own_sfW (own_sfW (own_sfW (own_sfW (own_sfE Y_b44 E47 HH45) W51 (Safe.arv hZ.alike V47 (by decide)) HH49) W54 (Safe.arv hZ.alike V51 (by decide)) HH52) W57 (Safe.arv hZ.alike V54 (by decide)) HH55) W60 (Safe.arv hZ.alike V57 (by decide)) HH58)
              have f72 := (((((f48.ext E47).wr W51 g_b47).wr W54 g_b47).wr W57 g_b47).wr W60 g_b47)
              have f73 := (((((A44.ext E47).wr W51).wr W54).wr W57).wr W60)
              have f74 := (((((Fb44_value.ext E47).other W51 (Or.inl (Nat.ne_of_lt (Nat.lt_of_lt_of_le A44.lt (Nat.le_of_eq g47.symm))))).other W54 (Or.inl (Nat.ne_of_lt (Nat.lt_of_lt_of_le A44.lt (Nat.le_of_eq g47.symm))))).other W57 (Or.inl (Nat.ne_of_lt (Nat.lt_of_lt_of_le A44.lt (Nat.le_of_eq g47.symm))))).other W60 (Or.inl (Nat.ne_of_lt (Nat.lt_of_lt_of_le A44.lt (Nat.le_of_eq g47.symm)))))
              have f75 := (((((Fb44_coder.ext E47).other W51 (Or.inl (Nat.ne_of_lt (Nat.lt_of_lt_of_le A44.lt (Nat.le_of_eq g47.symm))))).other W54 (Or.inl (Nat.ne_of_lt (Nat.lt_of_lt_of_le A44.lt (Nat.le_of_eq g47.symm))))).other W57 (Or.inl (Nat.ne_of_lt (Nat.lt_of_lt_of_le A44.lt (Nat.le_of_eq g47.symm))))).other W60 (Or.inl (Nat.ne_of_lt (Nat.lt_of_lt_of_le A44.lt (Nat.le_of_eq g47.symm)))))
              refine own_special X60 hx hZ (y := (⟨"java/lang/String", "<init>", "([C)V"⟩ : MethodName)) rfl hown (hw _ (List.mem_of_getElem? (i := 14) rfl)) (hw _ (List.mem_of_getElem? (i := 15) rfl)) (hw _ (List.mem_of_getElem? (i := 12) rfl)) (hw _ (List.mem_of_getElem? (i := 16) rfl)) (by decide) e60 (by decide) (W := 1) (by decide) (by decide) (by decide) [(.ref b47)] [(.ref b44)] (by rw [hml]; rfl) (a := b44) (own_wd4 l Z a0 hw b44 zc b47 _ x0 x1 x2 x3 h60 n0 f72 SC hzc SA SH SL hx0 hx1 hx2 hx3 g_b44 f73 f74 f75 V60 HB) own_pd8 rfl rfl rfl (hb hby own_d_method_3_code_116) rfl ?_
              intro v76 T76 L76 X76 hQ76
              obtain ⟨rfl, Nq76, Kq76, Ss76⟩ := hQ76
              have N76 := Fr.app N60 Nq76
              have HH77 := HH61.keep Kq76 (sfS f71 sf0)
              have K78 := K62.trans Kq76 (allS (Or.inr sz_b44) all0)
              obtain ⟨t76, kb76, cd76, Nn76, vs76, Es76, Vs76, Cs76, Ks76, cod76, hbd76, hle76⟩ := Ss76
              show own_Ends p e below _ (T76.setTop (mkF m 119 #[.val (.int p1), .val (.int x0), .val (.int x1), .val (.int x2), .val (.int x3), .val (.int x4)] [(.ref b44)]))
              exact own_retAH X76 hx hZ rfl HH77 hEL hlocks hret rfl rfl (hb hby own_d_method_3_code_119) (by decide) (by decide) ⟨b44, rfl, N76, by exact ⟨K78, (by rw [show own_mk p1 x0 x1 x2 x3 x4 = ([x0, x1, x2, x3] : List Int32) from by simp only [own_mk, if_neg hc1_1, if_neg hc17_2, if_neg hc37_3, if_neg hc61_4, if_pos hc89_5]]; exact ⟨_, _, _, _, _, Es76, Vs76, Cs76, Ks76, cod76, hbd76, hle76⟩)⟩⟩
        · refine own_new X0 hx hZ hown (hw _ (List.mem_of_getElem? (i := 10) rfl)) (hw _ (List.mem_of_getElem? (i := 11) rfl)) (hw _ (List.mem_of_getElem? (i := 12) rfl)) e0 (hb hby own_d_method_3_code_64) (by decide) (by decide) rfl ?_
          intro T79 h79 b79 X79 e79 g79 E79 A79 D79
          have g_b79 : n0 ≤ b79 := Nat.le_trans (own_oz O0) (Nat.le_of_eq g79.symm)
          have sz_b79 : h0.size ≤ b79 := Nat.le_trans K0.1 (Nat.le_of_eq g79.symm)
          have HH80 := HH0.ext E79
          have K81 := K0.ext E79
          have Y_b79 := own_sfN g79 E79 HH0
          have Fb79_value : Fld Z h79 b79 "java/lang/String" "value" "[B" .null := D79 (Or.inr (hw _ (List.mem_of_getElem? (i := 26) rfl))) (ty := (.array .byte)) (by decide)
          have Fb79_coder : Fld Z h79 b79 "java/lang/String" "coder" "B" (.int (0 : Int32)) := D79 (Or.inr (hw _ (List.mem_of_getElem? (i := 27) rfl))) (ty := .byte) (by decide)
          refine own_dup X79 hx (hb hby own_d_method_3_code_67) rfl rfl ?_
          refine own_iconst X79 hx (3 : Int32) (hb hby own_d_method_3_code_68) (by decide) rfl ?_
          refine own_newP X79 hx hZ (aty := .char) (hw _ (List.mem_of_getElem? (i := 13) rfl)) e79 (hb hby own_d_method_3_code_69) (by decide) 3 (by decide) (by decide) (by decide) (by decide) rfl ?_
          intro T82 h82 b82 k82 X82 e82 g82 E82 V82q
          have f83 := (O0.ext E79)
          have g_b82 : n0 ≤ b82 := Nat.le_trans (own_oz f83) (Nat.le_of_eq g82.symm)
          have sz_b82 : h0.size ≤ b82 := Nat.le_trans K81.1 (Nat.le_of_eq g82.symm)
          have HH84 := HH80.ext E82
          have K85 := K81.ext E82
          have V82 : Arv Z h82 b82 k82 .char (3 : Int32) [(.int (0 : Int32)), (.int (0 : Int32)), (.int (0 : Int32))] (.int (0 : Int32)) := Arv.pad V82q (pad_rep [] (.int (0 : Int32)) 3)
          refine own_dup X82 hx (hb hby own_d_method_3_code_71) rfl rfl ?_
          refine own_iconst X82 hx (0 : Int32) (hb hby own_d_method_3_code_72) (by decide) rfl ?_
          refine own_iloadN X82 hx (hb hby own_d_method_3_code_73) rfl rfl ?_
          refine own_stC X82 hx hZ e82 V82 ⟨by decide, by decide⟩ 0 rfl (Nat.le_of_ble_eq_true rfl) (own_narC2 hx0) N0 g_b82 (hb hby own_d_method_3_code_74) rfl ?_
          intro T86 h86 X86 e86 W86 N86 V86
          have HH87 := HH84.wr W86 (Safe.arv hZ.alike V82 (by decide))
          have K88 := K85.wr W86 (Or.inr sz_b82)
          refine own_dup X86 hx (hb hby own_d_method_3_code_75) rfl rfl ?_
          refine own_iconst X86 hx (1 : Int32) (hb hby own_d_method_3_code_76) (by decide) rfl ?_
          refine own_iloadN X86 hx (hb hby own_d_method_3_code_77) rfl rfl ?_
          refine own_stC X86 hx hZ e86 V86 ⟨by decide, by decide⟩ 1 rfl (Nat.le_of_ble_eq_true rfl) (own_narC2 hx1) N86 g_b82 (hb hby own_d_method_3_code_78) rfl ?_
          intro T89 h89 X89 e89 W89 N89 V89
          have HH90 := HH87.wr W89 (Safe.arv hZ.alike V86 (by decide))
          have K91 := K88.wr W89 (Or.inr sz_b82)
          refine own_dup X89 hx (hb hby own_d_method_3_code_79) rfl rfl ?_
          refine own_iconst X89 hx (2 : Int32) (hb hby own_d_method_3_code_80) (by decide) rfl ?_
          refine own_iloadN X89 hx (hb hby own_d_method_3_code_81) rfl rfl ?_
          refine own_stC X89 hx hZ e89 V89 ⟨by decide, by decide⟩ 2 rfl (Nat.le_of_ble_eq_true rfl) (own_narC2 hx2) N89 g_b82 (hb hby own_d_method_3_code_82) rfl ?_
          intro T92 h92 X92 e92 W92 N92 V92
          have HH93 := HH90.wr W92 (Safe.arv hZ.alike V89 (by decide))
          have K94 := K91.wr W92 (Or.inr sz_b82)
          rcases own_wideOr3 x0 x1 x2 with ⟨hl0, hl1, hl2⟩ | HB
          · have hp_b79 : ∀ c ∈ ([x0, x1, x2] : List Int32), ¬ c < 0 ∧ ¬ (255 : Int32) < c := (own_c2 ⟨hx0.1, hl0⟩ (own_c2 ⟨hx1.1, hl1⟩ (own_c2 ⟨hx2.1, hl2⟩ own_c0)))
            have f95 := ((((A79.ext E82).wr W86).wr W89).wr W92)
            have f96 := ((((Fb79_value.ext E82).other W86 (Or.inl (Nat.ne_of_lt (Nat.lt_of_lt_of_le A79.lt (Nat.le_of_eq g82.symm))))).other W89 (Or.inl (Nat.ne_of_lt (Nat.lt_of_lt_of_le A79.lt (Nat.le_of_eq g82.symm))))).other W92 (Or.inl (Nat.ne_of_lt (Nat.lt_of_lt_of_le A79.lt (Nat.le_of_eq g82.symm)))))
            have f97 := ((((Fb79_coder.ext E82).other W86 (Or.inl (Nat.ne_of_lt (Nat.lt_of_lt_of_le A79.lt (Nat.le_of_eq g82.symm))))).other W89 (Or.inl (Nat.ne_of_lt (Nat.lt_of_lt_of_le A79.lt (Nat.le_of_eq g82.symm))))).other W92 (Or.inl (Nat.ne_of_lt (Nat.lt_of_lt_of_le A79.lt (Nat.le_of_eq g82.symm)))))
            have f98 := ((((f83.ext E82).wr W86 g_b82).wr W89 g_b82).wr W92 g_b82)
            have f99 := (own_sfW (own_sfW (own_sfW (own_sfE Y_b79 E82 HH80) W86 (Safe.arv hZ.alike V82 (by decide)) HH84) W89 (Safe.arv hZ.alike V86 (by decide)) HH87) W92 (Safe.arv hZ.alike V89 (by decide)) HH90)
            refine own_specialB X92 hx hZ (y := (⟨"java/lang/String", "<init>", "([C)V"⟩ : MethodName)) rfl hown (hw _ (List.mem_of_getElem? (i := 14) rfl)) (hw _ (List.mem_of_getElem? (i := 15) rfl)) (hw _ (List.mem_of_getElem? (i := 16) rfl)) (by decide) e92 (W := 1) (ce := 1) (sl := 3) (by decide) (by decide) [(.ref b82)] [(.ref b79)] (by rw [hml]; rfl) (a := b79) (StrChars.Road.QV Z b79 (3 : Int32) (([x0, x1, x2] : List Int32).map (fun c => c.toInt8.toInt32)) h92 n0) (StrChars.Road.backV (W := 1) hZ (own_hws hw) (kI := 4) (hw _ (List.mem_of_getElem? (i := 11) rfl)) (cs := ([x0, x1, x2] : List Int32)) (bs := (([x0, x1, x2] : List Int32).map (fun c => c.toInt8.toInt32))) (n := 3) g_b79 (own_oz f98) f95 f96 f97 V92 (SC.ext f98.2) hzc rfl rfl (by decide) (by decide) hp_b79 rfl (by decide) (by decide)) own_pd8 rfl rfl rfl (hb hby own_d_method_3_code_83) rfl ?_
            intro v100 T100 L100 X100 hQ100
            obtain ⟨rfl, Nq100, Kq100, Es100, Cs100, t100, kb100, gt100, st100, nt100, Vs100, Ks100⟩ := hQ100
            have N100 := Fr.app N92 Nq100
            have HH101 := HH93.keep Kq100 (sfS f99 sf0)
            have K102 := K94.trans Kq100 (allS (Or.inr sz_b79) all0)
            have co100 : StrChars.Road.CodA ([x0, x1, x2] : List Int32) 0 (3 : Int32) (((([x0, x1, x2] : List Int32).map (fun c => c.toInt8.toInt32))).map Value.int) := StrChars.Road.codOf (n := 3) rfl (fun c hc => (hp_b79 c hc).2)
            have hb100 := own_up hp_b79
            show own_Ends p e below _ (T100.setTop (mkF m 86 #[.val (.int p1), .val (.int x0), .val (.int x1), .val (.int x2), .val (.int x3), .val (.int x4)] [(.ref b79)]))
            exact own_retAH X100 hx hZ rfl HH101 hEL hlocks hret rfl rfl (hb hby own_d_method_3_code_86) (by decide) (by decide) ⟨b79, rfl, N100, by exact ⟨K102, (by rw [show own_mk p1 x0 x1 x2 x3 x4 = ([x0, x1, x2] : List Int32) from by simp only [own_mk, if_neg hc1_1, if_neg hc17_2, if_neg hc37_3, if_pos hc61_4]]; exact ⟨_, _, _, _, _, Es100, Vs100, Cs100, Ks100, co100, hb100, (Nat.le_of_ble_eq_true rfl)⟩)⟩⟩
          · have f103 := (own_sfW (own_sfW (own_sfW (own_sfE Y_b79 E82 HH80) W86 (Safe.arv hZ.alike V82 (by decide)) HH84) W89 (Safe.arv hZ.alike V86 (by decide)) HH87) W92 (Safe.arv hZ.alike V89 (by decide)) HH90)
            have f104 := ((((f83.ext E82).wr W86 g_b82).wr W89 g_b82).wr W92 g_b82)
            have f105 := ((((A79.ext E82).wr W86).wr W89).wr W92)
            have f106 := ((((Fb79_value.ext E82).other W86 (Or.inl (Nat.ne_of_lt (Nat.lt_of_lt_of_le A79.lt (Nat.le_of_eq g82.symm))))).other W89 (Or.inl (Nat.ne_of_lt (Nat.lt_of_lt_of_le A79.lt (Nat.le_of_eq g82.symm))))).other W92 (Or.inl (Nat.ne_of_lt (Nat.lt_of_lt_of_le A79.lt (Nat.le_of_eq g82.symm)))))
            have f107 := ((((Fb79_coder.ext E82).other W86 (Or.inl (Nat.ne_of_lt (Nat.lt_of_lt_of_le A79.lt (Nat.le_of_eq g82.symm))))).other W89 (Or.inl (Nat.ne_of_lt (Nat.lt_of_lt_of_le A79.lt (Nat.le_of_eq g82.symm))))).other W92 (Or.inl (Nat.ne_of_lt (Nat.lt_of_lt_of_le A79.lt (Nat.le_of_eq g82.symm)))))
            refine own_special X92 hx hZ (y := (⟨"java/lang/String", "<init>", "([C)V"⟩ : MethodName)) rfl hown (hw _ (List.mem_of_getElem? (i := 14) rfl)) (hw _ (List.mem_of_getElem? (i := 15) rfl)) (hw _ (List.mem_of_getElem? (i := 12) rfl)) (hw _ (List.mem_of_getElem? (i := 16) rfl)) (by decide) e92 (by decide) (W := 1) (by decide) (by decide) (by decide) [(.ref b82)] [(.ref b79)] (by rw [hml]; rfl) (a := b79) (own_wd3 l Z a0 hw b79 zc b82 _ x0 x1 x2 h92 n0 f104 SC hzc SA SH SL hx0 hx1 hx2 g_b79 f105 f106 f107 V92 HB) own_pd8 rfl rfl rfl (hb hby own_d_method_3_code_83) rfl ?_
            intro v108 T108 L108 X108 hQ108
            obtain ⟨rfl, Nq108, Kq108, Ss108⟩ := hQ108
            have N108 := Fr.app N92 Nq108
            have HH109 := HH93.keep Kq108 (sfS f103 sf0)
            have K110 := K94.trans Kq108 (allS (Or.inr sz_b79) all0)
            obtain ⟨t108, kb108, cd108, Nn108, vs108, Es108, Vs108, Cs108, Ks108, cod108, hbd108, hle108⟩ := Ss108
            show own_Ends p e below _ (T108.setTop (mkF m 86 #[.val (.int p1), .val (.int x0), .val (.int x1), .val (.int x2), .val (.int x3), .val (.int x4)] [(.ref b79)]))
            exact own_retAH X108 hx hZ rfl HH109 hEL hlocks hret rfl rfl (hb hby own_d_method_3_code_86) (by decide) (by decide) ⟨b79, rfl, N108, by exact ⟨K110, (by rw [show own_mk p1 x0 x1 x2 x3 x4 = ([x0, x1, x2] : List Int32) from by simp only [own_mk, if_neg hc1_1, if_neg hc17_2, if_neg hc37_3, if_pos hc61_4]]; exact ⟨_, _, _, _, _, Es108, Vs108, Cs108, Ks108, cod108, hbd108, hle108⟩)⟩⟩
      · refine own_new X0 hx hZ hown (hw _ (List.mem_of_getElem? (i := 10) rfl)) (hw _ (List.mem_of_getElem? (i := 11) rfl)) (hw _ (List.mem_of_getElem? (i := 12) rfl)) e0 (hb hby own_d_method_3_code_40) (by decide) (by decide) rfl ?_
        intro T111 h111 b111 X111 e111 g111 E111 A111 D111
        have g_b111 : n0 ≤ b111 := Nat.le_trans (own_oz O0) (Nat.le_of_eq g111.symm)
        have sz_b111 : h0.size ≤ b111 := Nat.le_trans K0.1 (Nat.le_of_eq g111.symm)
        have HH112 := HH0.ext E111
        have K113 := K0.ext E111
        have Y_b111 := own_sfN g111 E111 HH0
        have Fb111_value : Fld Z h111 b111 "java/lang/String" "value" "[B" .null := D111 (Or.inr (hw _ (List.mem_of_getElem? (i := 26) rfl))) (ty := (.array .byte)) (by decide)
        have Fb111_coder : Fld Z h111 b111 "java/lang/String" "coder" "B" (.int (0 : Int32)) := D111 (Or.inr (hw _ (List.mem_of_getElem? (i := 27) rfl))) (ty := .byte) (by decide)
        refine own_dup X111 hx (hb hby own_d_method_3_code_43) rfl rfl ?_
        refine own_iconst X111 hx (2 : Int32) (hb hby own_d_method_3_code_44) (by decide) rfl ?_
        refine own_newP X111 hx hZ (aty := .char) (hw _ (List.mem_of_getElem? (i := 13) rfl)) e111 (hb hby own_d_method_3_code_45) (by decide) 2 (by decide) (by decide) (by decide) (by decide) rfl ?_
        intro T114 h114 b114 k114 X114 e114 g114 E114 V114q
        have f115 := (O0.ext E111)
        have g_b114 : n0 ≤ b114 := Nat.le_trans (own_oz f115) (Nat.le_of_eq g114.symm)
        have sz_b114 : h0.size ≤ b114 := Nat.le_trans K113.1 (Nat.le_of_eq g114.symm)
        have HH116 := HH112.ext E114
        have K117 := K113.ext E114
        have V114 : Arv Z h114 b114 k114 .char (2 : Int32) [(.int (0 : Int32)), (.int (0 : Int32))] (.int (0 : Int32)) := Arv.pad V114q (pad_rep [] (.int (0 : Int32)) 2)
        refine own_dup X114 hx (hb hby own_d_method_3_code_47) rfl rfl ?_
        refine own_iconst X114 hx (0 : Int32) (hb hby own_d_method_3_code_48) (by decide) rfl ?_
        refine own_iloadN X114 hx (hb hby own_d_method_3_code_49) rfl rfl ?_
        refine own_stC X114 hx hZ e114 V114 ⟨by decide, by decide⟩ 0 rfl (Nat.le_of_ble_eq_true rfl) (own_narC2 hx0) N0 g_b114 (hb hby own_d_method_3_code_50) rfl ?_
        intro T118 h118 X118 e118 W118 N118 V118
        have HH119 := HH116.wr W118 (Safe.arv hZ.alike V114 (by decide))
        have K120 := K117.wr W118 (Or.inr sz_b114)
        refine own_dup X118 hx (hb hby own_d_method_3_code_51) rfl rfl ?_
        refine own_iconst X118 hx (1 : Int32) (hb hby own_d_method_3_code_52) (by decide) rfl ?_
        refine own_iloadN X118 hx (hb hby own_d_method_3_code_53) rfl rfl ?_
        refine own_stC X118 hx hZ e118 V118 ⟨by decide, by decide⟩ 1 rfl (Nat.le_of_ble_eq_true rfl) (own_narC2 hx1) N118 g_b114 (hb hby own_d_method_3_code_54) rfl ?_
        intro T121 h121 X121 e121 W121 N121 V121
        have HH122 := HH119.wr W121 (Safe.arv hZ.alike V118 (by decide))
        have K123 := K120.wr W121 (Or.inr sz_b114)
        rcases own_wideOr2 x0 x1 with ⟨hl0, hl1⟩ | HB
        · have hp_b111 : ∀ c ∈ ([x0, x1] : List Int32), ¬ c < 0 ∧ ¬ (255 : Int32) < c := (own_c2 ⟨hx0.1, hl0⟩ (own_c2 ⟨hx1.1, hl1⟩ own_c0))
          have f124 := (((A111.ext E114).wr W118).wr W121)
          have f125 := (((Fb111_value.ext E114).other W118 (Or.inl (Nat.ne_of_lt (Nat.lt_of_lt_of_le A111.lt (Nat.le_of_eq g114.symm))))).other W121 (Or.inl (Nat.ne_of_lt (Nat.lt_of_lt_of_le A111.lt (Nat.le_of_eq g114.symm)))))
          have f126 := (((Fb111_coder.ext E114).other W118 (Or.inl (Nat.ne_of_lt (Nat.lt_of_lt_of_le A111.lt (Nat.le_of_eq g114.symm))))).other W121 (Or.inl (Nat.ne_of_lt (Nat.lt_of_lt_of_le A111.lt (Nat.le_of_eq g114.symm)))))
          have f127 := (((f115.ext E114).wr W118 g_b114).wr W121 g_b114)
          have f128 := (own_sfW (own_sfW (own_sfE Y_b111 E114 HH112) W118 (Safe.arv hZ.alike V114 (by decide)) HH116) W121 (Safe.arv hZ.alike V118 (by decide)) HH119)
          refine own_specialB X121 hx hZ (y := (⟨"java/lang/String", "<init>", "([C)V"⟩ : MethodName)) rfl hown (hw _ (List.mem_of_getElem? (i := 14) rfl)) (hw _ (List.mem_of_getElem? (i := 15) rfl)) (hw _ (List.mem_of_getElem? (i := 16) rfl)) (by decide) e121 (W := 1) (ce := 1) (sl := 2) (by decide) (by decide) [(.ref b114)] [(.ref b111)] (by rw [hml]; rfl) (a := b111) (StrChars.Road.QV Z b111 (2 : Int32) (([x0, x1] : List Int32).map (fun c => c.toInt8.toInt32)) h121 n0) (StrChars.Road.backV (W := 1) hZ (own_hws hw) (kI := 4) (hw _ (List.mem_of_getElem? (i := 11) rfl)) (cs := ([x0, x1] : List Int32)) (bs := (([x0, x1] : List Int32).map (fun c => c.toInt8.toInt32))) (n := 2) g_b111 (own_oz f127) f124 f125 f126 V121 (SC.ext f127.2) hzc rfl rfl (by decide) (by decide) hp_b111 rfl (by decide) (by decide)) own_pd8 rfl rfl rfl (hb hby own_d_method_3_code_55) rfl ?_
          intro v129 T129 L129 X129 hQ129
          obtain ⟨rfl, Nq129, Kq129, Es129, Cs129, t129, kb129, gt129, st129, nt129, Vs129, Ks129⟩ := hQ129
          have N129 := Fr.app N121 Nq129
          have HH130 := HH122.keep Kq129 (sfS f128 sf0)
          have K131 := K123.trans Kq129 (allS (Or.inr sz_b111) all0)
          have co129 : StrChars.Road.CodA ([x0, x1] : List Int32) 0 (2 : Int32) (((([x0, x1] : List Int32).map (fun c => c.toInt8.toInt32))).map Value.int) := StrChars.Road.codOf (n := 2) rfl (fun c hc => (hp_b111 c hc).2)
          have hb129 := own_up hp_b111
          show own_Ends p e below _ (T129.setTop (mkF m 58 #[.val (.int p1), .val (.int x0), .val (.int x1), .val (.int x2), .val (.int x3), .val (.int x4)] [(.ref b111)]))
          exact own_retAH X129 hx hZ rfl HH130 hEL hlocks hret rfl rfl (hb hby own_d_method_3_code_58) (by decide) (by decide) ⟨b111, rfl, N129, by exact ⟨K131, (by rw [show own_mk p1 x0 x1 x2 x3 x4 = ([x0, x1] : List Int32) from by simp only [own_mk, if_neg hc1_1, if_neg hc17_2, if_pos hc37_3]]; exact ⟨_, _, _, _, _, Es129, Vs129, Cs129, Ks129, co129, hb129, (Nat.le_of_ble_eq_true rfl)⟩)⟩⟩
        · have f132 := (own_sfW (own_sfW (own_sfE Y_b111 E114 HH112) W118 (Safe.arv hZ.alike V114 (by decide)) HH116) W121 (Safe.arv hZ.alike V118 (by decide)) HH119)
          have f133 := (((f115.ext E114).wr W118 g_b114).wr W121 g_b114)
          have f134 := (((A111.ext E114).wr W118).wr W121)
          have f135 := (((Fb111_value.ext E114).other W118 (Or.inl (Nat.ne_of_lt (Nat.lt_of_lt_of_le A111.lt (Nat.le_of_eq g114.symm))))).other W121 (Or.inl (Nat.ne_of_lt (Nat.lt_of_lt_of_le A111.lt (Nat.le_of_eq g114.symm)))))
          have f136 := (((Fb111_coder.ext E114).other W118 (Or.inl (Nat.ne_of_lt (Nat.lt_of_lt_of_le A111.lt (Nat.le_of_eq g114.symm))))).other W121 (Or.inl (Nat.ne_of_lt (Nat.lt_of_lt_of_le A111.lt (Nat.le_of_eq g114.symm)))))
          refine own_special X121 hx hZ (y := (⟨"java/lang/String", "<init>", "([C)V"⟩ : MethodName)) rfl hown (hw _ (List.mem_of_getElem? (i := 14) rfl)) (hw _ (List.mem_of_getElem? (i := 15) rfl)) (hw _ (List.mem_of_getElem? (i := 12) rfl)) (hw _ (List.mem_of_getElem? (i := 16) rfl)) (by decide) e121 (by decide) (W := 1) (by decide) (by decide) (by decide) [(.ref b114)] [(.ref b111)] (by rw [hml]; rfl) (a := b111) (own_wd2 l Z a0 hw b111 zc b114 _ x0 x1 h121 n0 f133 SC hzc SA SH SL hx0 hx1 g_b111 f134 f135 f136 V121 HB) own_pd8 rfl rfl rfl (hb hby own_d_method_3_code_55) rfl ?_
          intro v137 T137 L137 X137 hQ137
          obtain ⟨rfl, Nq137, Kq137, Ss137⟩ := hQ137
          have N137 := Fr.app N121 Nq137
          have HH138 := HH122.keep Kq137 (sfS f132 sf0)
          have K139 := K123.trans Kq137 (allS (Or.inr sz_b111) all0)
          obtain ⟨t137, kb137, cd137, Nn137, vs137, Es137, Vs137, Cs137, Ks137, cod137, hbd137, hle137⟩ := Ss137
          show own_Ends p e below _ (T137.setTop (mkF m 58 #[.val (.int p1), .val (.int x0), .val (.int x1), .val (.int x2), .val (.int x3), .val (.int x4)] [(.ref b111)]))
          exact own_retAH X137 hx hZ rfl HH138 hEL hlocks hret rfl rfl (hb hby own_d_method_3_code_58) (by decide) (by decide) ⟨b111, rfl, N137, by exact ⟨K139, (by rw [show own_mk p1 x0 x1 x2 x3 x4 = ([x0, x1] : List Int32) from by simp only [own_mk, if_neg hc1_1, if_neg hc17_2, if_pos hc37_3]]; exact ⟨_, _, _, _, _, Es137, Vs137, Cs137, Ks137, cod137, hbd137, hle137⟩)⟩⟩
    · refine own_new X0 hx hZ hown (hw _ (List.mem_of_getElem? (i := 10) rfl)) (hw _ (List.mem_of_getElem? (i := 11) rfl)) (hw _ (List.mem_of_getElem? (i := 12) rfl)) e0 (hb hby own_d_method_3_code_20) (by decide) (by decide) rfl ?_
      intro T140 h140 b140 X140 e140 g140 E140 A140 D140
      have g_b140 : n0 ≤ b140 := Nat.le_trans (own_oz O0) (Nat.le_of_eq g140.symm)
      have sz_b140 : h0.size ≤ b140 := Nat.le_trans K0.1 (Nat.le_of_eq g140.symm)
      have HH141 := HH0.ext E140
      have K142 := K0.ext E140
      have Y_b140 := own_sfN g140 E140 HH0
      have Fb140_value : Fld Z h140 b140 "java/lang/String" "value" "[B" .null := D140 (Or.inr (hw _ (List.mem_of_getElem? (i := 26) rfl))) (ty := (.array .byte)) (by decide)
      have Fb140_coder : Fld Z h140 b140 "java/lang/String" "coder" "B" (.int (0 : Int32)) := D140 (Or.inr (hw _ (List.mem_of_getElem? (i := 27) rfl))) (ty := .byte) (by decide)
      refine own_dup X140 hx (hb hby own_d_method_3_code_23) rfl rfl ?_
      refine own_iconst X140 hx (1 : Int32) (hb hby own_d_method_3_code_24) (by decide) rfl ?_
      refine own_newP X140 hx hZ (aty := .char) (hw _ (List.mem_of_getElem? (i := 13) rfl)) e140 (hb hby own_d_method_3_code_25) (by decide) 1 (by decide) (by decide) (by decide) (by decide) rfl ?_
      intro T143 h143 b143 k143 X143 e143 g143 E143 V143q
      have f144 := (O0.ext E140)
      have g_b143 : n0 ≤ b143 := Nat.le_trans (own_oz f144) (Nat.le_of_eq g143.symm)
      have sz_b143 : h0.size ≤ b143 := Nat.le_trans K142.1 (Nat.le_of_eq g143.symm)
      have HH145 := HH141.ext E143
      have K146 := K142.ext E143
      have V143 : Arv Z h143 b143 k143 .char (1 : Int32) [(.int (0 : Int32))] (.int (0 : Int32)) := Arv.pad V143q (pad_rep [] (.int (0 : Int32)) 1)
      refine own_dup X143 hx (hb hby own_d_method_3_code_27) rfl rfl ?_
      refine own_iconst X143 hx (0 : Int32) (hb hby own_d_method_3_code_28) (by decide) rfl ?_
      refine own_iloadN X143 hx (hb hby own_d_method_3_code_29) rfl rfl ?_
      refine own_stC X143 hx hZ e143 V143 ⟨by decide, by decide⟩ 0 rfl (Nat.le_of_ble_eq_true rfl) (own_narC2 hx0) N0 g_b143 (hb hby own_d_method_3_code_30) rfl ?_
      intro T147 h147 X147 e147 W147 N147 V147
      have HH148 := HH145.wr W147 (Safe.arv hZ.alike V143 (by decide))
      have K149 := K146.wr W147 (Or.inr sz_b143)
      rcases own_wideOr1 x0 with hl0 | HB
      · have hp_b140 : ∀ c ∈ ([x0] : List Int32), ¬ c < 0 ∧ ¬ (255 : Int32) < c := (own_c2 ⟨hx0.1, hl0⟩ own_c0)
        have f150 := ((A140.ext E143).wr W147)
        have f151 := ((Fb140_value.ext E143).other W147 (Or.inl (Nat.ne_of_lt (Nat.lt_of_lt_of_le A140.lt (Nat.le_of_eq g143.symm)))))
        have f152 := ((Fb140_coder.ext E143).other W147 (Or.inl (Nat.ne_of_lt (Nat.lt_of_lt_of_le A140.lt (Nat.le_of_eq g143.symm)))))
        have f153 := ((f144.ext E143).wr W147 g_b143)
        have f154 := (own_sfW (own_sfE Y_b140 E143 HH141) W147 (Safe.arv hZ.alike V143 (by decide)) HH145)
        refine own_specialB X147 hx hZ (y := (⟨"java/lang/String", "<init>", "([C)V"⟩ : MethodName)) rfl hown (hw _ (List.mem_of_getElem? (i := 14) rfl)) (hw _ (List.mem_of_getElem? (i := 15) rfl)) (hw _ (List.mem_of_getElem? (i := 16) rfl)) (by decide) e147 (W := 1) (ce := 1) (sl := 1) (by decide) (by decide) [(.ref b143)] [(.ref b140)] (by rw [hml]; rfl) (a := b140) (StrChars.Road.QV Z b140 (1 : Int32) (([x0] : List Int32).map (fun c => c.toInt8.toInt32)) h147 n0) (StrChars.Road.backV (W := 1) hZ (own_hws hw) (kI := 4) (hw _ (List.mem_of_getElem? (i := 11) rfl)) (cs := ([x0] : List Int32)) (bs := (([x0] : List Int32).map (fun c => c.toInt8.toInt32))) (n := 1) g_b140 (own_oz f153) f150 f151 f152 V147 (SC.ext f153.2) hzc rfl rfl (by decide) (by decide) hp_b140 rfl (by decide) (by decide)) own_pd8 rfl rfl rfl (hb hby own_d_method_3_code_31) rfl ?_
        intro v155 T155 L155 X155 hQ155
        obtain ⟨rfl, Nq155, Kq155, Es155, Cs155, t155, kb155, gt155, st155, nt155, Vs155, Ks155⟩ := hQ155
        have N155 := Fr.app N147 Nq155
        have HH156 := HH148.keep Kq155 (sfS f154 sf0)
        have K157 := K149.trans Kq155 (allS (Or.inr sz_b140) all0)
        have co155 : StrChars.Road.CodA ([x0] : List Int32) 0 (1 : Int32) (((([x0] : List Int32).map (fun c => c.toInt8.toInt32))).map Value.int) := StrChars.Road.codOf (n := 1) rfl (fun c hc => (hp_b140 c hc).2)
        have hb155 := own_up hp_b140
        show own_Ends p e below _ (T155.setTop (mkF m 34 #[.val (.int p1), .val (.int x0), .val (.int x1), .val (.int x2), .val (.int x3), .val (.int x4)] [(.ref b140)]))
        exact own_retAH X155 hx hZ rfl HH156 hEL hlocks hret rfl rfl (hb hby own_d_method_3_code_34) (by decide) (by decide) ⟨b140, rfl, N155, by exact ⟨K157, (by rw [show own_mk p1 x0 x1 x2 x3 x4 = ([x0] : List Int32) from by simp only [own_mk, if_neg hc1_1, if_pos hc17_2]]; exact ⟨_, _, _, _, _, Es155, Vs155, Cs155, Ks155, co155, hb155, (Nat.le_of_ble_eq_true rfl)⟩)⟩⟩
      · have f158 := (own_sfW (own_sfE Y_b140 E143 HH141) W147 (Safe.arv hZ.alike V143 (by decide)) HH145)
        have f159 := ((f144.ext E143).wr W147 g_b143)
        have f160 := ((A140.ext E143).wr W147)
        have f161 := ((Fb140_value.ext E143).other W147 (Or.inl (Nat.ne_of_lt (Nat.lt_of_lt_of_le A140.lt (Nat.le_of_eq g143.symm)))))
        have f162 := ((Fb140_coder.ext E143).other W147 (Or.inl (Nat.ne_of_lt (Nat.lt_of_lt_of_le A140.lt (Nat.le_of_eq g143.symm)))))
        refine own_special X147 hx hZ (y := (⟨"java/lang/String", "<init>", "([C)V"⟩ : MethodName)) rfl hown (hw _ (List.mem_of_getElem? (i := 14) rfl)) (hw _ (List.mem_of_getElem? (i := 15) rfl)) (hw _ (List.mem_of_getElem? (i := 12) rfl)) (hw _ (List.mem_of_getElem? (i := 16) rfl)) (by decide) e147 (by decide) (W := 1) (by decide) (by decide) (by decide) [(.ref b143)] [(.ref b140)] (by rw [hml]; rfl) (a := b140) (own_wd1 l Z a0 hw b140 zc b143 _ x0 h147 n0 f159 SC hzc SA SH SL hx0 g_b140 f160 f161 f162 V147 HB) own_pd8 rfl rfl rfl (hb hby own_d_method_3_code_31) rfl ?_
        intro v163 T163 L163 X163 hQ163
        obtain ⟨rfl, Nq163, Kq163, Ss163⟩ := hQ163
        have N163 := Fr.app N147 Nq163
        have HH164 := HH148.keep Kq163 (sfS f158 sf0)
        have K165 := K149.trans Kq163 (allS (Or.inr sz_b140) all0)
        obtain ⟨t163, kb163, cd163, Nn163, vs163, Es163, Vs163, Cs163, Ks163, cod163, hbd163, hle163⟩ := Ss163
        show own_Ends p e below _ (T163.setTop (mkF m 34 #[.val (.int p1), .val (.int x0), .val (.int x1), .val (.int x2), .val (.int x3), .val (.int x4)] [(.ref b140)]))
        exact own_retAH X163 hx hZ rfl HH164 hEL hlocks hret rfl rfl (hb hby own_d_method_3_code_34) (by decide) (by decide) ⟨b140, rfl, N163, by exact ⟨K165, (by rw [show own_mk p1 x0 x1 x2 x3 x4 = ([x0] : List Int32) from by simp only [own_mk, if_neg hc1_1, if_pos hc17_2]]; exact ⟨_, _, _, _, _, Es163, Vs163, Cs163, Ks163, cod163, hbd163, hle163⟩)⟩⟩
  · refine own_new X0 hx hZ hown (hw _ (List.mem_of_getElem? (i := 10) rfl)) (hw _ (List.mem_of_getElem? (i := 11) rfl)) (hw _ (List.mem_of_getElem? (i := 12) rfl)) e0 (hb hby own_d_method_3_code_4) (by decide) (by decide) rfl ?_
    intro T166 h166 b166 X166 e166 g166 E166 A166 D166
    have g_b166 : n0 ≤ b166 := Nat.le_trans (own_oz O0) (Nat.le_of_eq g166.symm)
    have sz_b166 : h0.size ≤ b166 := Nat.le_trans K0.1 (Nat.le_of_eq g166.symm)
    have HH167 := HH0.ext E166
    have K168 := K0.ext E166
    have Y_b166 := own_sfN g166 E166 HH0
    have Fb166_value : Fld Z h166 b166 "java/lang/String" "value" "[B" .null := D166 (Or.inr (hw _ (List.mem_of_getElem? (i := 26) rfl))) (ty := (.array .byte)) (by decide)
    have Fb166_coder : Fld Z h166 b166 "java/lang/String" "coder" "B" (.int (0 : Int32)) := D166 (Or.inr (hw _ (List.mem_of_getElem? (i := 27) rfl))) (ty := .byte) (by decide)
    refine own_dup X166 hx (hb hby own_d_method_3_code_7) rfl rfl ?_
    refine own_iconst X166 hx (0 : Int32) (hb hby own_d_method_3_code_8) (by decide) rfl ?_
    refine own_newP X166 hx hZ (aty := .char) (hw _ (List.mem_of_getElem? (i := 13) rfl)) e166 (hb hby own_d_method_3_code_9) (by decide) 0 (by decide) (by decide) (by decide) (by decide) rfl ?_
    intro T169 h169 b169 k169 X169 e169 g169 E169 V169q
    have f170 := (O0.ext E166)
    have g_b169 : n0 ≤ b169 := Nat.le_trans (own_oz f170) (Nat.le_of_eq g169.symm)
    have sz_b169 : h0.size ≤ b169 := Nat.le_trans K168.1 (Nat.le_of_eq g169.symm)
    have HH171 := HH167.ext E169
    have K172 := K168.ext E169
    have V169 : Arv Z h169 b169 k169 .char (0 : Int32) [] (.int (0 : Int32)) := V169q
    have f173 := (f170.ext E169)
    have f174 := (A166.ext E169)
    have f175 := (Fb166_value.ext E169)
    have f176 := (Fb166_coder.ext E169)
    refine own_specialH X169 hx hZ (y := (⟨"java/lang/String", "<init>", "([C)V"⟩ : MethodName)) rfl hown (hw _ (List.mem_of_getElem? (i := 14) rfl)) (hw _ (List.mem_of_getElem? (i := 15) rfl)) (hw _ (List.mem_of_getElem? (i := 12) rfl)) (hw _ (List.mem_of_getElem? (i := 16) rfl)) (by decide) HH171 hEL e169 (by decide) (W := 1) (by decide) (by decide) (by decide) [(.ref b169)] [(.ref b166)] (by rw [hml]; rfl) (a := b166) (own_s1 l Z a0 hw b166 b169 _ h169 n0 hEL f173 g_b166 f174 f175 f176 V169) own_pd8 rfl rfl rfl (hb hby own_d_method_3_code_11) rfl ?_
    intro v177 T177 L177 X177 hQ177 hZ hown HH177 A177
    obtain ⟨rfl, Nq177, Kq177, Ss177⟩ := hQ177
    have N177 := Fr.app N0 Nq177
    have K178 := K172.trans Kq177 (allS (Or.inr sz_b166) all0)
    obtain ⟨t177, kb177, cd177, Nn177, vs177, Es177, Vs177, Cs177, Ks177, cod177, hbd177, hle177⟩ := Ss177
    show own_Ends p e below _ (T177.setTop (mkF m 14 #[.val (.int p1), .val (.int x0), .val (.int x1), .val (.int x2), .val (.int x3), .val (.int x4)] [(.ref b166)]))
    exact own_retAH X177 hx hZ rfl HH177 hEL hlocks hret rfl rfl (hb hby own_d_method_3_code_14) (by decide) (by decide) ⟨b166, rfl, N177, by exact ⟨K178, (by rw [show own_mk p1 x0 x1 x2 x3 x4 = ([] : List Int32) from by simp only [own_mk, if_pos hc1_1]]; exact ⟨_, _, _, _, _, Es177, Vs177, Cs177, Ks177, cod177, hbd177, hle177⟩)⟩⟩
set_option maxRecDepth 65536 in
set_option maxHeartbeats 40000000 in
theorem own_isSpecial (l : Launch) (Z : State) (a0 : Array Value) (hw : ∀ d ∈ tables_1, d.before a0 Z = true) (s1 : Addr) (cs : List Int32) (zc : Int32) (h0 : Heap) (n0 : Nat) (hEL : EW Z a0 consts_1) (O0 : Old Z n0 h0) (SC : Sta Z Z.heap "java/lang/String" "COMPACT_STRINGS" "Z" (.int zc)) (hzc : ¬ zc = 0) (SA : Sta Z Z.heap "java/lang/StringUTF16" "$assertionsDisabled" "Z" (.int (1 : Int32))) (SH : Sta Z Z.heap "java/lang/StringUTF16" "HI_BYTE_SHIFT" "I" (.int (0 : Int32))) (SL : Sta Z Z.heap "java/lang/StringUTF16" "LO_BYTE_SHIFT" "I" (.int (8 : Int32))) (S1 : own_Str Z h0 s1 cs) :
    own_MetH l (⟨"com/example/pincio/pincio/core/CanonicalLiterals", "isSpecial", "(Ljava/lang/String;)Z"⟩ : MethodName) prog_14_method_7_code 1 (some .boolean) ({ frames := 2, cells := 6, slots := 52, locals := 28 } : Room) Z consts_1 #[(.ref s1)] h0 (fun v h L => v = some (.int (own_isp cs)) ∧ Fr n0 L ∧ Keep h0 h []) := by
  refine own_metH (plainFor_of_name own_pn_com_example_pincio_pincio_core_CanonicalLiterals) ?_
  intro p e s m below meth c T0 hx hby hml hZ hown hnm hret hlocks X0 e0 hh0 HH0
  have ef : entryFrame m #[(.ref s1)] 1 = mkF m 0 #[.val (.ref s1)] [] := by first | (simp [entryFrame, mkF, argsToLocals, Value.category]; done) | rfl
  refine own_entry ef ?_
  have N0 := Fr.nil n0
  have K0 := Keep.refl h0 []
  have hwS := own_hwS hw
  obtain ⟨t1, kb1, cd1, Nn1, vs1, Es1, Vs1, Cs1, Ks1, cod1, hbd1, hle1⟩ := S1
  refine own_aloadN X0 hx (hb hby own_d_prog_14_method_7_code_0) rfl rfl rfl ?_
  refine own_ldcS X0 hx hZ hown (hw _ (List.mem_of_getElem? (i := 36) rfl)) hwS e0 HH0 hEL (List.mem_of_getElem? (i := 0) rfl) (vs := ((([73, 78, 70] : List Int32).map StrChars.lo8).map Value.int)) (z := (3 : Int32)) (by decide +kernel) (by decide) (by decide) (hb hby own_d_prog_14_method_7_code_1) 12 (by decide) (by decide) (by decide) (by decide) rfl ?_
  intro ls1 T1 h1 lt1 k1 X1 e1 E1 hZ hown HH1 A1 Ex1 Fc1 Fv1 V1 ne1
  have K2 := K0.ext E1
  have f3 := (Es1.ext E1)
  have f4 := (Vs1.ext E1)
  have f5 := (Cs1.ext E1)
  have f6 := (Ks1.ext E1)
  have f7 := (O0.ext E1)
  refine own_virtualB X1 hx hZ (y := (⟨"java/lang/String", "equals", "(Ljava/lang/Object;)Z"⟩ : MethodName)) (z := (⟨"java/lang/String", "equals", "(Ljava/lang/Object;)Z"⟩ : MethodName)) hown (hw _ (List.mem_of_getElem? (i := 37) rfl)) (hw _ (List.mem_of_getElem? (i := 38) rfl)) (notFace_of_selects (args := #[]) (mvT hZ (hw _ (List.mem_of_getElem? (i := 40) rfl)))) (hw _ (List.mem_of_getElem? (i := 40) rfl)) (hw _ (List.mem_of_getElem? (i := 39) rfl)) (by decide) e1 (W := 0) (ce := 0) (sl := 0) (by decide) (by decide) [(.ref ls1)] [] (by rw [hml]; rfl) f3 (fun v h' L => ((v = some (.int 1) ∧ cs = ([73, 78, 70] : List Int32)) ∨ (v = some (.int 0) ∧ ¬ cs = ([73, 78, 70] : List Int32))) ∧ L = [] ∧ h' = h1) (StrChars.Road.eqW (W := 0) hZ (own_heq hw) (kI := 4) (hw _ (List.mem_of_getElem? (i := 11) rfl)) f3 f4 f5 f6 cod1 hbd1 hle1 Ex1 Fv1 Fc1 V1 (StrChars.Road.codOf (cs := [73, 78, 70]) (n := 3) rfl (by decide)) (by decide) (Nat.le_of_ble_eq_true rfl) (SC.ext f7.2) hzc (by decide) (by decide)) own_pd9 rfl rfl rfl (hb hby own_d_prog_14_method_7_code_3) rfl ?_
  intro v8 T8 L8 X8 hQ8
  obtain ⟨hv8, rfl, hh8⟩ := hQ8
  have N8 := Fr.app N0 (Fr.nil n0)
  obtain rfl : v8 = some (.int (if cs = ([73, 78, 70] : List Int32) then (1 : Int32) else 0)) := by rcases hv8 with ⟨rfl, q⟩ | ⟨rfl, q⟩ <;> simp [q]
  show own_Ends p e below _ (T8.setTop (mkF m 6 #[.val (.ref s1)] [(.int (if cs = ([73, 78, 70] : List Int32) then (1 : Int32) else 0))]))
  refine own_if_ne X8 hx (hb hby own_d_prog_14_method_7_code_6) (by decide) rfl rfl (fun hc6_9 => ?_) (fun hc6_9 => ?_)
  · refine own_iconst X8 hx (1 : Int32) (hb hby own_d_prog_14_method_7_code_27) (by decide) rfl ?_
    refine own_goto X8 hx (hb hby own_d_prog_14_method_7_code_28) (by decide) rfl ?_
    exact own_retNH X8 hx hZ hh8 HH1 hEL hlocks hret (by simp) (hb hby own_d_prog_14_method_7_code_32) (by decide) (by decide) (by decide) ⟨congrArg (fun q => some (Value.int q)) (by simp_all [own_isp]), N8, by rw [hh8]; exact K2⟩
  · refine own_aloadN X8 hx (hb hby own_d_prog_14_method_7_code_9) rfl rfl rfl ?_
    refine own_ldcS X8 hx hZ hown (hw _ (List.mem_of_getElem? (i := 48) rfl)) hwS hh8 HH1 hEL (List.mem_of_getElem? (i := 1) rfl) (vs := ((([45, 73, 78, 70] : List Int32).map StrChars.lo8).map Value.int)) (z := (4 : Int32)) (by decide +kernel) (by decide) (by decide) (hb hby own_d_prog_14_method_7_code_10) 16 (by decide) (by decide) (by decide) (by decide) rfl ?_
    intro ls10 T10 h10 lt10 k10 X10 e10 E10 hZ hown HH10 A10 Ex10 Fc10 Fv10 V10 ne10
    have K11 := K2.ext E10
    have f12 := (f3.ext E10)
    have f13 := (f4.ext E10)
    have f14 := (f5.ext E10)
    have f15 := (f6.ext E10)
    have f16 := (f7.ext E10)
    refine own_virtualB X10 hx hZ (y := (⟨"java/lang/String", "equals", "(Ljava/lang/Object;)Z"⟩ : MethodName)) (z := (⟨"java/lang/String", "equals", "(Ljava/lang/Object;)Z"⟩ : MethodName)) hown (hw _ (List.mem_of_getElem? (i := 37) rfl)) (hw _ (List.mem_of_getElem? (i := 38) rfl)) (notFace_of_selects (args := #[]) (mvT hZ (hw _ (List.mem_of_getElem? (i := 40) rfl)))) (hw _ (List.mem_of_getElem? (i := 40) rfl)) (hw _ (List.mem_of_getElem? (i := 39) rfl)) (by decide) e10 (W := 0) (ce := 0) (sl := 0) (by decide) (by decide) [(.ref ls10)] [] (by rw [hml]; rfl) f12 (fun v h' L => ((v = some (.int 1) ∧ cs = ([45, 73, 78, 70] : List Int32)) ∨ (v = some (.int 0) ∧ ¬ cs = ([45, 73, 78, 70] : List Int32))) ∧ L = [] ∧ h' = h10) (StrChars.Road.eqW (W := 0) hZ (own_heq hw) (kI := 4) (hw _ (List.mem_of_getElem? (i := 11) rfl)) f12 f13 f14 f15 cod1 hbd1 hle1 Ex10 Fv10 Fc10 V10 (StrChars.Road.codOf (cs := [45, 73, 78, 70]) (n := 4) rfl (by decide)) (by decide) (Nat.le_of_ble_eq_true rfl) (SC.ext f16.2) hzc (by decide) (by decide)) own_pd9 rfl rfl rfl (hb hby own_d_prog_14_method_7_code_12) rfl ?_
    intro v17 T17 L17 X17 hQ17
    obtain ⟨hv17, rfl, hh17⟩ := hQ17
    have N17 := Fr.app N8 (Fr.nil n0)
    obtain rfl : v17 = some (.int (if cs = ([45, 73, 78, 70] : List Int32) then (1 : Int32) else 0)) := by rcases hv17 with ⟨rfl, q⟩ | ⟨rfl, q⟩ <;> simp [q]
    show own_Ends p e below _ (T17.setTop (mkF m 15 #[.val (.ref s1)] [(.int (if cs = ([45, 73, 78, 70] : List Int32) then (1 : Int32) else 0))]))
    refine own_if_ne X17 hx (hb hby own_d_prog_14_method_7_code_15) (by decide) rfl rfl (fun hc15_18 => ?_) (fun hc15_18 => ?_)
    · refine own_iconst X17 hx (1 : Int32) (hb hby own_d_prog_14_method_7_code_27) (by decide) rfl ?_
      refine own_goto X17 hx (hb hby own_d_prog_14_method_7_code_28) (by decide) rfl ?_
      exact own_retNH X17 hx hZ hh17 HH10 hEL hlocks hret (by simp) (hb hby own_d_prog_14_method_7_code_32) (by decide) (by decide) (by decide) ⟨congrArg (fun q => some (Value.int q)) (by simp_all [own_isp]), N17, by rw [hh17]; exact K11⟩
    · refine own_aloadN X17 hx (hb hby own_d_prog_14_method_7_code_18) rfl rfl rfl ?_
      refine own_ldcS X17 hx hZ hown (hw _ (List.mem_of_getElem? (i := 49) rfl)) hwS hh17 HH10 hEL (List.mem_of_getElem? (i := 2) rfl) (vs := ((([78, 97, 78] : List Int32).map StrChars.lo8).map Value.int)) (z := (3 : Int32)) (by decide +kernel) (by decide) (by decide) (hb hby own_d_prog_14_method_7_code_19) 12 (by decide) (by decide) (by decide) (by decide) rfl ?_
      intro ls19 T19 h19 lt19 k19 X19 e19 E19 hZ hown HH19 A19 Ex19 Fc19 Fv19 V19 ne19
      have K20 := K11.ext E19
      have f21 := (f12.ext E19)
      have f22 := (f13.ext E19)
      have f23 := (f14.ext E19)
      have f24 := (f15.ext E19)
      have f25 := (f16.ext E19)
      refine own_virtualB X19 hx hZ (y := (⟨"java/lang/String", "equals", "(Ljava/lang/Object;)Z"⟩ : MethodName)) (z := (⟨"java/lang/String", "equals", "(Ljava/lang/Object;)Z"⟩ : MethodName)) hown (hw _ (List.mem_of_getElem? (i := 37) rfl)) (hw _ (List.mem_of_getElem? (i := 38) rfl)) (notFace_of_selects (args := #[]) (mvT hZ (hw _ (List.mem_of_getElem? (i := 40) rfl)))) (hw _ (List.mem_of_getElem? (i := 40) rfl)) (hw _ (List.mem_of_getElem? (i := 39) rfl)) (by decide) e19 (W := 0) (ce := 0) (sl := 0) (by decide) (by decide) [(.ref ls19)] [] (by rw [hml]; rfl) f21 (fun v h' L => ((v = some (.int 1) ∧ cs = ([78, 97, 78] : List Int32)) ∨ (v = some (.int 0) ∧ ¬ cs = ([78, 97, 78] : List Int32))) ∧ L = [] ∧ h' = h19) (StrChars.Road.eqW (W := 0) hZ (own_heq hw) (kI := 4) (hw _ (List.mem_of_getElem? (i := 11) rfl)) f21 f22 f23 f24 cod1 hbd1 hle1 Ex19 Fv19 Fc19 V19 (StrChars.Road.codOf (cs := [78, 97, 78]) (n := 3) rfl (by decide)) (by decide) (Nat.le_of_ble_eq_true rfl) (SC.ext f25.2) hzc (by decide) (by decide)) own_pd9 rfl rfl rfl (hb hby own_d_prog_14_method_7_code_21) rfl ?_
      intro v26 T26 L26 X26 hQ26
      obtain ⟨hv26, rfl, hh26⟩ := hQ26
      have N26 := Fr.app N17 (Fr.nil n0)
      obtain rfl : v26 = some (.int (if cs = ([78, 97, 78] : List Int32) then (1 : Int32) else 0)) := by rcases hv26 with ⟨rfl, q⟩ | ⟨rfl, q⟩ <;> simp [q]
      show own_Ends p e below _ (T26.setTop (mkF m 24 #[.val (.ref s1)] [(.int (if cs = ([78, 97, 78] : List Int32) then (1 : Int32) else 0))]))
      refine own_if_eq X26 hx (hb hby own_d_prog_14_method_7_code_24) (by decide) rfl rfl (fun hc24_27 => ?_) (fun hc24_27 => ?_)
      · refine own_iconst X26 hx (0 : Int32) (hb hby own_d_prog_14_method_7_code_31) (by decide) rfl ?_
        exact own_retNH X26 hx hZ hh26 HH19 hEL hlocks hret (by simp) (hb hby own_d_prog_14_method_7_code_32) (by decide) (by decide) (by decide) ⟨congrArg (fun q => some (Value.int q)) (by simp_all [own_isp]), N26, by rw [hh26]; exact K20⟩
      · refine own_iconst X26 hx (1 : Int32) (hb hby own_d_prog_14_method_7_code_27) (by decide) rfl ?_
        refine own_goto X26 hx (hb hby own_d_prog_14_method_7_code_28) (by decide) rfl ?_
        exact own_retNH X26 hx hZ hh26 HH19 hEL hlocks hret (by simp) (hb hby own_d_prog_14_method_7_code_32) (by decide) (by decide) (by decide) ⟨congrArg (fun q => some (Value.int q)) (by simp_all [own_isp]), N26, by rw [hh26]; exact K20⟩
set_option maxRecDepth 65536 in
set_option maxHeartbeats 40000000 in
theorem own_law (l : Launch) (Z : State) (a0 : Array Value) (hw : ∀ d ∈ tables_1, d.before a0 Z = true) (p0 p1 p2 p3 p4 p5 zc : Int32) (h0 : Heap) (n0 : Nat) (hEL : EW Z a0 consts_1) (O0 : Old Z n0 h0) (SC : Sta Z Z.heap "java/lang/String" "COMPACT_STRINGS" "Z" (.int zc)) (hzc : ¬ zc = 0) (SA : Sta Z Z.heap "java/lang/StringUTF16" "$assertionsDisabled" "Z" (.int (1 : Int32))) (SH : Sta Z Z.heap "java/lang/StringUTF16" "HI_BYTE_SHIFT" "I" (.int (0 : Int32))) (SL : Sta Z Z.heap "java/lang/StringUTF16" "LO_BYTE_SHIFT" "I" (.int (8 : Int32))) :
    own_MetH l x code maxLocals ret room_1 Z consts_1 #[(.int p0), (.int p1), (.int p2), (.int p3), (.int p4), (.int p5)] h0 (fun v h L => v = some (.int 1) ∧ Fr n0 L) := by
  refine own_metH (plainFor_of_name own_pn_com_example_pincio_pincio_core_CanonicalLiteralsIsSpecialPinLaw) ?_
  intro p e s m below meth c T0 hx hby hml hZ hown hnm hret hlocks X0 e0 hh0 HH0
  have ef : entryFrame m #[(.int p0), (.int p1), (.int p2), (.int p3), (.int p4), (.int p5)] maxLocals = mkF m 0 #[.val (.int p0), .val (.int p1), .val (.int p2), .val (.int p3), .val (.int p4), .val (.int p5), .unset, .unset, .unset, .unset, .unset, .unset, .unset, .unset] [] := by first | (simp [entryFrame, mkF, argsToLocals, Value.category, maxLocals]; done) | rfl
  refine own_entry ef ?_
  have N0 := Fr.nil n0
  have K0 := Keep.refl h0 []
  have hwS := own_hwS hw
  refine own_iloadN X0 hx (hb hby at_0) rfl rfl ?_
  refine own_ldcInt X0 hx hZ hown (hw _ (List.mem_of_getElem? (i := 0) rfl)) (hb hby at_1) rfl ?_
  refine own_iand X0 hx (hb hby at_3) rfl ?_
  refine own_bipush X0 hx (6 : Int32) (hb hby at_4) (by decide) rfl ?_
  refine own_irem X0 hx (hb hby at_6) (by decide) rfl ?_
  generalize ((p0 &&& (2147483647 : Int32)) % (6 : Int32)) = k
  refine own_istore X0 hx #[.val (.int p0), .val (.int p1), .val (.int p2), .val (.int p3), .val (.int p4), .val (.int p5), .val (.int k), .unset, .unset, .unset, .unset, .unset, .unset, .unset] (hb hby at_7) rfl rfl ?_
  refine own_iloadN X0 hx (hb hby at_9) rfl rfl ?_
  refine own_static X0 hx hZ (y := (⟨"com/example/pincio/pincio/core/CanonicalLiteralsIsSpecialPinLaw", "ch", "(I)C"⟩ : MethodName)) hown (hw _ (List.mem_of_getElem? (i := 1) rfl)) (hw _ (List.mem_of_getElem? (i := 2) rfl)) (hw _ (List.mem_of_getElem? (i := 3) rfl)) (hw _ (List.mem_of_getElem? (i := 4) rfl)) (by decide) e0 (by decide) (W := 0) (by decide) (by decide) (by decide) [(.int p1)] [] (by rw [hml]; rfl) (own_chr l Z a0 hw p1 h0 n0 O0) own_pd10 rfl rfl rfl (hb hby at_10) rfl ?_
  intro v1 T1 L1 X1 hQ1
  obtain ⟨c1, rfl, hc1, Nq1, Kq1⟩ := hQ1
  have N1 := Fr.app N0 Nq1
  have HH2 := HH0.keep Kq1 sf0
  have K3 := K0.trans Kq1 all0
  show own_Ends p e below _ (T1.setTop (mkF m 13 #[.val (.int p0), .val (.int p1), .val (.int p2), .val (.int p3), .val (.int p4), .val (.int p5), .val (.int k), .unset, .unset, .unset, .unset, .unset, .unset, .unset] [(.int c1)]))
  refine own_istore X1 hx #[.val (.int p0), .val (.int p1), .val (.int p2), .val (.int p3), .val (.int p4), .val (.int p5), .val (.int k), .val (.int c1), .unset, .unset, .unset, .unset, .unset, .unset] (hb hby at_13) rfl rfl ?_
  refine own_iloadN X1 hx (hb hby at_15) rfl rfl ?_
  have f4 := (O0.keep Kq1 all0)
  refine own_static X1 hx hZ (y := (⟨"com/example/pincio/pincio/core/CanonicalLiteralsIsSpecialPinLaw", "ch", "(I)C"⟩ : MethodName)) hown (hw _ (List.mem_of_getElem? (i := 1) rfl)) (hw _ (List.mem_of_getElem? (i := 2) rfl)) (hw _ (List.mem_of_getElem? (i := 3) rfl)) (hw _ (List.mem_of_getElem? (i := 4) rfl)) (by decide) rfl (by decide) (W := 0) (by decide) (by decide) (by decide) [(.int p2)] [] (by rw [hml]; rfl) (own_chr l Z a0 hw p2 T1.heap n0 f4) own_pd10 rfl rfl rfl (hb hby at_16) rfl ?_
  intro v5 T5 L5 X5 hQ5
  obtain ⟨c5, rfl, hc5, Nq5, Kq5⟩ := hQ5
  have N5 := Fr.app N1 Nq5
  have HH6 := HH2.keep Kq5 sf0
  have K7 := K3.trans Kq5 all0
  show own_Ends p e below _ (T5.setTop (mkF m 19 #[.val (.int p0), .val (.int p1), .val (.int p2), .val (.int p3), .val (.int p4), .val (.int p5), .val (.int k), .val (.int c1), .unset, .unset, .unset, .unset, .unset, .unset] [(.int c5)]))
  refine own_istore X5 hx #[.val (.int p0), .val (.int p1), .val (.int p2), .val (.int p3), .val (.int p4), .val (.int p5), .val (.int k), .val (.int c1), .val (.int c5), .unset, .unset, .unset, .unset, .unset] (hb hby at_19) rfl rfl ?_
  refine own_iloadN X5 hx (hb hby at_21) rfl rfl ?_
  have f8 := (f4.keep Kq5 all0)
  refine own_static X5 hx hZ (y := (⟨"com/example/pincio/pincio/core/CanonicalLiteralsIsSpecialPinLaw", "ch", "(I)C"⟩ : MethodName)) hown (hw _ (List.mem_of_getElem? (i := 1) rfl)) (hw _ (List.mem_of_getElem? (i := 2) rfl)) (hw _ (List.mem_of_getElem? (i := 3) rfl)) (hw _ (List.mem_of_getElem? (i := 4) rfl)) (by decide) rfl (by decide) (W := 0) (by decide) (by decide) (by decide) [(.int p3)] [] (by rw [hml]; rfl) (own_chr l Z a0 hw p3 T5.heap n0 f8) own_pd10 rfl rfl rfl (hb hby at_22) rfl ?_
  intro v9 T9 L9 X9 hQ9
  obtain ⟨c9, rfl, hc9, Nq9, Kq9⟩ := hQ9
  have N9 := Fr.app N5 Nq9
  have HH10 := HH6.keep Kq9 sf0
  have K11 := K7.trans Kq9 all0
  show own_Ends p e below _ (T9.setTop (mkF m 25 #[.val (.int p0), .val (.int p1), .val (.int p2), .val (.int p3), .val (.int p4), .val (.int p5), .val (.int k), .val (.int c1), .val (.int c5), .unset, .unset, .unset, .unset, .unset] [(.int c9)]))
  refine own_istore X9 hx #[.val (.int p0), .val (.int p1), .val (.int p2), .val (.int p3), .val (.int p4), .val (.int p5), .val (.int k), .val (.int c1), .val (.int c5), .val (.int c9), .unset, .unset, .unset, .unset] (hb hby at_25) rfl rfl ?_
  refine own_iload X9 hx (hb hby at_27) rfl rfl ?_
  have f12 := (f8.keep Kq9 all0)
  refine own_static X9 hx hZ (y := (⟨"com/example/pincio/pincio/core/CanonicalLiteralsIsSpecialPinLaw", "ch", "(I)C"⟩ : MethodName)) hown (hw _ (List.mem_of_getElem? (i := 1) rfl)) (hw _ (List.mem_of_getElem? (i := 2) rfl)) (hw _ (List.mem_of_getElem? (i := 3) rfl)) (hw _ (List.mem_of_getElem? (i := 4) rfl)) (by decide) rfl (by decide) (W := 0) (by decide) (by decide) (by decide) [(.int p4)] [] (by rw [hml]; rfl) (own_chr l Z a0 hw p4 T9.heap n0 f12) own_pd10 rfl rfl rfl (hb hby at_29) rfl ?_
  intro v13 T13 L13 X13 hQ13
  obtain ⟨c13, rfl, hc13, Nq13, Kq13⟩ := hQ13
  have N13 := Fr.app N9 Nq13
  have HH14 := HH10.keep Kq13 sf0
  have K15 := K11.trans Kq13 all0
  show own_Ends p e below _ (T13.setTop (mkF m 32 #[.val (.int p0), .val (.int p1), .val (.int p2), .val (.int p3), .val (.int p4), .val (.int p5), .val (.int k), .val (.int c1), .val (.int c5), .val (.int c9), .unset, .unset, .unset, .unset] [(.int c13)]))
  refine own_istore X13 hx #[.val (.int p0), .val (.int p1), .val (.int p2), .val (.int p3), .val (.int p4), .val (.int p5), .val (.int k), .val (.int c1), .val (.int c5), .val (.int c9), .val (.int c13), .unset, .unset, .unset] (hb hby at_32) rfl rfl ?_
  refine own_iload X13 hx (hb hby at_34) rfl rfl ?_
  have f16 := (f12.keep Kq13 all0)
  refine own_static X13 hx hZ (y := (⟨"com/example/pincio/pincio/core/CanonicalLiteralsIsSpecialPinLaw", "ch", "(I)C"⟩ : MethodName)) hown (hw _ (List.mem_of_getElem? (i := 1) rfl)) (hw _ (List.mem_of_getElem? (i := 2) rfl)) (hw _ (List.mem_of_getElem? (i := 3) rfl)) (hw _ (List.mem_of_getElem? (i := 4) rfl)) (by decide) rfl (by decide) (W := 0) (by decide) (by decide) (by decide) [(.int p5)] [] (by rw [hml]; rfl) (own_chr l Z a0 hw p5 T13.heap n0 f16) own_pd10 rfl rfl rfl (hb hby at_36) rfl ?_
  intro v17 T17 L17 X17 hQ17
  obtain ⟨c17, rfl, hc17, Nq17, Kq17⟩ := hQ17
  have N17 := Fr.app N13 Nq17
  have HH18 := HH14.keep Kq17 sf0
  have K19 := K15.trans Kq17 all0
  show own_Ends p e below _ (T17.setTop (mkF m 39 #[.val (.int p0), .val (.int p1), .val (.int p2), .val (.int p3), .val (.int p4), .val (.int p5), .val (.int k), .val (.int c1), .val (.int c5), .val (.int c9), .val (.int c13), .unset, .unset, .unset] [(.int c17)]))
  refine own_istore X17 hx #[.val (.int p0), .val (.int p1), .val (.int p2), .val (.int p3), .val (.int p4), .val (.int p5), .val (.int k), .val (.int c1), .val (.int c5), .val (.int c9), .val (.int c13), .val (.int c17), .unset, .unset] (hb hby at_39) rfl rfl ?_
  refine own_iload X17 hx (hb hby at_41) rfl rfl ?_
  refine own_iload X17 hx (hb hby at_43) rfl rfl ?_
  refine own_iload X17 hx (hb hby at_45) rfl rfl ?_
  refine own_iload X17 hx (hb hby at_47) rfl rfl ?_
  refine own_iload X17 hx (hb hby at_49) rfl rfl ?_
  refine own_iload X17 hx (hb hby at_51) rfl rfl ?_
  have f20 := (f16.keep Kq17 all0)
  refine own_staticH X17 hx hZ (y := (⟨"com/example/pincio/pincio/core/CanonicalLiteralsIsSpecialPinLaw", "make", "(ICCCCC)Ljava/lang/String;"⟩ : MethodName)) hown (hw _ (List.mem_of_getElem? (i := 7) rfl)) (hw _ (List.mem_of_getElem? (i := 8) rfl)) (hw _ (List.mem_of_getElem? (i := 3) rfl)) (hw _ (List.mem_of_getElem? (i := 9) rfl)) (by decide) HH18 hEL rfl (by decide) (W := 0) (by decide) (by decide) (by decide) [(.int k), (.int c1), (.int c5), (.int c9), (.int c13), (.int c17)] [] (by rw [hml]; rfl) (own_make l Z a0 hw k zc c1 c5 c9 c13 c17 T17.heap n0 hEL f20 SC hzc SA SH SL hc1 hc5 hc9 hc13 hc17) own_pd11 rfl rfl rfl (hb hby at_53) rfl ?_
  intro v21 T21 L21 X21 hQ21 hZ hown HH21 A21
  obtain ⟨a21, rfl, Nq21, Kq21, Ss21⟩ := hQ21
  have N21 := Fr.app N17 Nq21
  have K22 := K19.trans Kq21 all0
  obtain ⟨t21, kb21, cd21, Nn21, vs21, Es21, Vs21, Cs21, Ks21, cod21, hbd21, hle21⟩ := Ss21
  show own_Ends p e below _ (T21.setTop (mkF m 56 #[.val (.int p0), .val (.int p1), .val (.int p2), .val (.int p3), .val (.int p4), .val (.int p5), .val (.int k), .val (.int c1), .val (.int c5), .val (.int c9), .val (.int c13), .val (.int c17), .unset, .unset] [(.ref a21)]))
  refine own_astore X21 hx #[.val (.int p0), .val (.int p1), .val (.int p2), .val (.int p3), .val (.int p4), .val (.int p5), .val (.int k), .val (.int c1), .val (.int c5), .val (.int c9), .val (.int c13), .val (.int c17), .val (.ref a21), .unset] (hb hby at_56) rfl rfl rfl ?_
  refine own_iload X21 hx (hb hby at_58) rfl rfl ?_
  refine own_iconst X21 hx (3 : Int32) (hb hby at_60) (by decide) rfl ?_
  refine own_icmp_ne X21 hx (hb hby at_61) (by decide) rfl rfl (fun hc61_23 => ?_) (fun hc61_23 => ?_)
  · refine own_iload X21 hx (hb hby at_116) rfl rfl ?_
    refine own_iconst X21 hx (4 : Int32) (hb hby at_118) (by decide) rfl ?_
    refine own_icmp_ne X21 hx (hb hby at_119) (by decide) rfl rfl (fun hc119_24 => ?_) (fun hc119_24 => ?_)
    · refine own_iconst X21 hx (0 : Int32) (hb hby at_160) (by decide) rfl ?_
      refine own_istore X21 hx #[.val (.int p0), .val (.int p1), .val (.int p2), .val (.int p3), .val (.int p4), .val (.int p5), .val (.int k), .val (.int c1), .val (.int c5), .val (.int c9), .val (.int c13), .val (.int c17), .val (.ref a21), .val (.int (0 : Int32))] (hb hby at_161) rfl rfl ?_
      refine own_aload X21 hx (hb hby at_163) rfl rfl rfl ?_
      have f25 := (f20.keep Kq21 all0)
      refine own_staticH X21 hx hZ (y := (⟨"com/example/pincio/pincio/core/CanonicalLiterals", "isSpecial", "(Ljava/lang/String;)Z"⟩ : MethodName)) hown (hw _ (List.mem_of_getElem? (i := 32) rfl)) (hw _ (List.mem_of_getElem? (i := 33) rfl)) (hw _ (List.mem_of_getElem? (i := 34) rfl)) (hw _ (List.mem_of_getElem? (i := 35) rfl)) (by decide) HH21 hEL rfl (by decide) (W := 0) (by decide) (by decide) (by decide) [(.ref a21)] [] (by rw [hml]; rfl) (own_isSpecial l Z a0 hw a21 (own_mk k c1 c5 c9 c13 c17) zc T21.heap n0 hEL f25 SC hzc SA SH SL ⟨_, _, _, _, _, Es21, Vs21, Cs21, Ks21, cod21, hbd21, hle21⟩) own_pd12 rfl rfl rfl (hb hby at_165) rfl ?_
      intro v26 T26 L26 X26 hQ26 hZ hown HH26 A26
      obtain ⟨rfl, Nq26, Kq26⟩ := hQ26
      have N26 := Fr.app N21 Nq26
      have K27 := K22.trans Kq26 all0
      show own_Ends p e below _ (T26.setTop (mkF m 168 #[.val (.int p0), .val (.int p1), .val (.int p2), .val (.int p3), .val (.int p4), .val (.int p5), .val (.int k), .val (.int c1), .val (.int c5), .val (.int c9), .val (.int c13), .val (.int c17), .val (.ref a21), .val (.int (0 : Int32))] [(.int (own_isp (own_mk k c1 c5 c9 c13 c17)))]))
      refine own_iload X26 hx (hb hby at_168) rfl rfl ?_
      refine own_icmpF X26 hx (hb hby at_170) rfl (teq ((own_ispO hc61_23 hc119_24).trans rfl)).2 ?_
      refine own_iconst X26 hx (1 : Int32) (hb hby at_173) (by decide) rfl ?_
      refine own_goto X26 hx (hb hby at_174) (by decide) rfl ?_
      exact own_retNH X26 hx hZ rfl HH26 hEL hlocks hret (by simp) (hb hby at_178) (by decide) (by decide) (by decide) ⟨rfl, N26⟩
    · refine own_iload X21 hx (hb hby at_122) rfl rfl ?_
      refine own_bipush X21 hx (45 : Int32) (hb hby at_124) (by decide) rfl ?_
      refine own_icmp_ne X21 hx (hb hby at_126) (by decide) rfl rfl (fun hc126_28 => ?_) (fun hc126_28 => ?_)
      · refine own_iconst X21 hx (0 : Int32) (hb hby at_154) (by decide) rfl ?_
        refine own_istore X21 hx #[.val (.int p0), .val (.int p1), .val (.int p2), .val (.int p3), .val (.int p4), .val (.int p5), .val (.int k), .val (.int c1), .val (.int c5), .val (.int c9), .val (.int c13), .val (.int c17), .val (.ref a21), .val (.int (0 : Int32))] (hb hby at_155) rfl rfl ?_
        refine own_goto X21 hx (hb hby at_157) (by decide) rfl ?_
        refine own_aload X21 hx (hb hby at_163) rfl rfl rfl ?_
        have f29 := (f20.keep Kq21 all0)
        refine own_staticH X21 hx hZ (y := (⟨"com/example/pincio/pincio/core/CanonicalLiterals", "isSpecial", "(Ljava/lang/String;)Z"⟩ : MethodName)) hown (hw _ (List.mem_of_getElem? (i := 32) rfl)) (hw _ (List.mem_of_getElem? (i := 33) rfl)) (hw _ (List.mem_of_getElem? (i := 34) rfl)) (hw _ (List.mem_of_getElem? (i := 35) rfl)) (by decide) HH21 hEL rfl (by decide) (W := 0) (by decide) (by decide) (by decide) [(.ref a21)] [] (by rw [hml]; rfl) (own_isSpecial l Z a0 hw a21 (own_mk k c1 c5 c9 c13 c17) zc T21.heap n0 hEL f29 SC hzc SA SH SL ⟨_, _, _, _, _, Es21, Vs21, Cs21, Ks21, cod21, hbd21, hle21⟩) own_pd12 rfl rfl rfl (hb hby at_165) rfl ?_
        intro v30 T30 L30 X30 hQ30 hZ hown HH30 A30
        obtain ⟨rfl, Nq30, Kq30⟩ := hQ30
        have N30 := Fr.app N21 Nq30
        have K31 := K22.trans Kq30 all0
        show own_Ends p e below _ (T30.setTop (mkF m 168 #[.val (.int p0), .val (.int p1), .val (.int p2), .val (.int p3), .val (.int p4), .val (.int p5), .val (.int k), .val (.int c1), .val (.int c5), .val (.int c9), .val (.int c13), .val (.int c17), .val (.ref a21), .val (.int (0 : Int32))] [(.int (own_isp (own_mk k c1 c5 c9 c13 c17)))]))
        refine own_iload X30 hx (hb hby at_168) rfl rfl ?_
        refine own_icmpF X30 hx (hb hby at_170) rfl (teq (by simp [own_isp, own_mk, hc61_23, hc119_24, hc126_28] : own_isp (own_mk k c1 c5 c9 c13 c17) = (0 : Int32))).2 ?_
        refine own_iconst X30 hx (1 : Int32) (hb hby at_173) (by decide) rfl ?_
        refine own_goto X30 hx (hb hby at_174) (by decide) rfl ?_
        exact own_retNH X30 hx hZ rfl HH30 hEL hlocks hret (by simp) (hb hby at_178) (by decide) (by decide) (by decide) ⟨rfl, N30⟩
      · refine own_iload X21 hx (hb hby at_129) rfl rfl ?_
        refine own_bipush X21 hx (73 : Int32) (hb hby at_131) (by decide) rfl ?_
        refine own_icmp_ne X21 hx (hb hby at_133) (by decide) rfl rfl (fun hc133_32 => ?_) (fun hc133_32 => ?_)
        · refine own_iconst X21 hx (0 : Int32) (hb hby at_154) (by decide) rfl ?_
          refine own_istore X21 hx #[.val (.int p0), .val (.int p1), .val (.int p2), .val (.int p3), .val (.int p4), .val (.int p5), .val (.int k), .val (.int c1), .val (.int c5), .val (.int c9), .val (.int c13), .val (.int c17), .val (.ref a21), .val (.int (0 : Int32))] (hb hby at_155) rfl rfl ?_
          refine own_goto X21 hx (hb hby at_157) (by decide) rfl ?_
          refine own_aload X21 hx (hb hby at_163) rfl rfl rfl ?_
          have f33 := (f20.keep Kq21 all0)
          refine own_staticH X21 hx hZ (y := (⟨"com/example/pincio/pincio/core/CanonicalLiterals", "isSpecial", "(Ljava/lang/String;)Z"⟩ : MethodName)) hown (hw _ (List.mem_of_getElem? (i := 32) rfl)) (hw _ (List.mem_of_getElem? (i := 33) rfl)) (hw _ (List.mem_of_getElem? (i := 34) rfl)) (hw _ (List.mem_of_getElem? (i := 35) rfl)) (by decide) HH21 hEL rfl (by decide) (W := 0) (by decide) (by decide) (by decide) [(.ref a21)] [] (by rw [hml]; rfl) (own_isSpecial l Z a0 hw a21 (own_mk k c1 c5 c9 c13 c17) zc T21.heap n0 hEL f33 SC hzc SA SH SL ⟨_, _, _, _, _, Es21, Vs21, Cs21, Ks21, cod21, hbd21, hle21⟩) own_pd12 rfl rfl rfl (hb hby at_165) rfl ?_
          intro v34 T34 L34 X34 hQ34 hZ hown HH34 A34
          obtain ⟨rfl, Nq34, Kq34⟩ := hQ34
          have N34 := Fr.app N21 Nq34
          have K35 := K22.trans Kq34 all0
          show own_Ends p e below _ (T34.setTop (mkF m 168 #[.val (.int p0), .val (.int p1), .val (.int p2), .val (.int p3), .val (.int p4), .val (.int p5), .val (.int k), .val (.int c1), .val (.int c5), .val (.int c9), .val (.int c13), .val (.int c17), .val (.ref a21), .val (.int (0 : Int32))] [(.int (own_isp (own_mk k c1 c5 c9 c13 c17)))]))
          refine own_iload X34 hx (hb hby at_168) rfl rfl ?_
          refine own_icmpF X34 hx (hb hby at_170) rfl (teq (by simp [own_isp, own_mk, hc61_23, hc119_24, hc126_28, hc133_32] : own_isp (own_mk k c1 c5 c9 c13 c17) = (0 : Int32))).2 ?_
          refine own_iconst X34 hx (1 : Int32) (hb hby at_173) (by decide) rfl ?_
          refine own_goto X34 hx (hb hby at_174) (by decide) rfl ?_
          exact own_retNH X34 hx hZ rfl HH34 hEL hlocks hret (by simp) (hb hby at_178) (by decide) (by decide) (by decide) ⟨rfl, N34⟩
        · refine own_iload X21 hx (hb hby at_136) rfl rfl ?_
          refine own_bipush X21 hx (78 : Int32) (hb hby at_138) (by decide) rfl ?_
          refine own_icmp_ne X21 hx (hb hby at_140) (by decide) rfl rfl (fun hc140_36 => ?_) (fun hc140_36 => ?_)
          · refine own_iconst X21 hx (0 : Int32) (hb hby at_154) (by decide) rfl ?_
            refine own_istore X21 hx #[.val (.int p0), .val (.int p1), .val (.int p2), .val (.int p3), .val (.int p4), .val (.int p5), .val (.int k), .val (.int c1), .val (.int c5), .val (.int c9), .val (.int c13), .val (.int c17), .val (.ref a21), .val (.int (0 : Int32))] (hb hby at_155) rfl rfl ?_
            refine own_goto X21 hx (hb hby at_157) (by decide) rfl ?_
            refine own_aload X21 hx (hb hby at_163) rfl rfl rfl ?_
            have f37 := (f20.keep Kq21 all0)
            refine own_staticH X21 hx hZ (y := (⟨"com/example/pincio/pincio/core/CanonicalLiterals", "isSpecial", "(Ljava/lang/String;)Z"⟩ : MethodName)) hown (hw _ (List.mem_of_getElem? (i := 32) rfl)) (hw _ (List.mem_of_getElem? (i := 33) rfl)) (hw _ (List.mem_of_getElem? (i := 34) rfl)) (hw _ (List.mem_of_getElem? (i := 35) rfl)) (by decide) HH21 hEL rfl (by decide) (W := 0) (by decide) (by decide) (by decide) [(.ref a21)] [] (by rw [hml]; rfl) (own_isSpecial l Z a0 hw a21 (own_mk k c1 c5 c9 c13 c17) zc T21.heap n0 hEL f37 SC hzc SA SH SL ⟨_, _, _, _, _, Es21, Vs21, Cs21, Ks21, cod21, hbd21, hle21⟩) own_pd12 rfl rfl rfl (hb hby at_165) rfl ?_
            intro v38 T38 L38 X38 hQ38 hZ hown HH38 A38
            obtain ⟨rfl, Nq38, Kq38⟩ := hQ38
            have N38 := Fr.app N21 Nq38
            have K39 := K22.trans Kq38 all0
            show own_Ends p e below _ (T38.setTop (mkF m 168 #[.val (.int p0), .val (.int p1), .val (.int p2), .val (.int p3), .val (.int p4), .val (.int p5), .val (.int k), .val (.int c1), .val (.int c5), .val (.int c9), .val (.int c13), .val (.int c17), .val (.ref a21), .val (.int (0 : Int32))] [(.int (own_isp (own_mk k c1 c5 c9 c13 c17)))]))
            refine own_iload X38 hx (hb hby at_168) rfl rfl ?_
            refine own_icmpF X38 hx (hb hby at_170) rfl (teq (by simp [own_isp, own_mk, hc61_23, hc119_24, hc126_28, hc133_32, hc140_36] : own_isp (own_mk k c1 c5 c9 c13 c17) = (0 : Int32))).2 ?_
            refine own_iconst X38 hx (1 : Int32) (hb hby at_173) (by decide) rfl ?_
            refine own_goto X38 hx (hb hby at_174) (by decide) rfl ?_
            exact own_retNH X38 hx hZ rfl HH38 hEL hlocks hret (by simp) (hb hby at_178) (by decide) (by decide) (by decide) ⟨rfl, N38⟩
          · refine own_iload X21 hx (hb hby at_143) rfl rfl ?_
            refine own_bipush X21 hx (70 : Int32) (hb hby at_145) (by decide) rfl ?_
            refine own_icmp_ne X21 hx (hb hby at_147) (by decide) rfl rfl (fun hc147_40 => ?_) (fun hc147_40 => ?_)
            · refine own_iconst X21 hx (0 : Int32) (hb hby at_154) (by decide) rfl ?_
              refine own_istore X21 hx #[.val (.int p0), .val (.int p1), .val (.int p2), .val (.int p3), .val (.int p4), .val (.int p5), .val (.int k), .val (.int c1), .val (.int c5), .val (.int c9), .val (.int c13), .val (.int c17), .val (.ref a21), .val (.int (0 : Int32))] (hb hby at_155) rfl rfl ?_
              refine own_goto X21 hx (hb hby at_157) (by decide) rfl ?_
              refine own_aload X21 hx (hb hby at_163) rfl rfl rfl ?_
              have f41 := (f20.keep Kq21 all0)
              refine own_staticH X21 hx hZ (y := (⟨"com/example/pincio/pincio/core/CanonicalLiterals", "isSpecial", "(Ljava/lang/String;)Z"⟩ : MethodName)) hown (hw _ (List.mem_of_getElem? (i := 32) rfl)) (hw _ (List.mem_of_getElem? (i := 33) rfl)) (hw _ (List.mem_of_getElem? (i := 34) rfl)) (hw _ (List.mem_of_getElem? (i := 35) rfl)) (by decide) HH21 hEL rfl (by decide) (W := 0) (by decide) (by decide) (by decide) [(.ref a21)] [] (by rw [hml]; rfl) (own_isSpecial l Z a0 hw a21 (own_mk k c1 c5 c9 c13 c17) zc T21.heap n0 hEL f41 SC hzc SA SH SL ⟨_, _, _, _, _, Es21, Vs21, Cs21, Ks21, cod21, hbd21, hle21⟩) own_pd12 rfl rfl rfl (hb hby at_165) rfl ?_
              intro v42 T42 L42 X42 hQ42 hZ hown HH42 A42
              obtain ⟨rfl, Nq42, Kq42⟩ := hQ42
              have N42 := Fr.app N21 Nq42
              have K43 := K22.trans Kq42 all0
              show own_Ends p e below _ (T42.setTop (mkF m 168 #[.val (.int p0), .val (.int p1), .val (.int p2), .val (.int p3), .val (.int p4), .val (.int p5), .val (.int k), .val (.int c1), .val (.int c5), .val (.int c9), .val (.int c13), .val (.int c17), .val (.ref a21), .val (.int (0 : Int32))] [(.int (own_isp (own_mk k c1 c5 c9 c13 c17)))]))
              refine own_iload X42 hx (hb hby at_168) rfl rfl ?_
              refine own_icmpF X42 hx (hb hby at_170) rfl (teq (by simp [own_isp, own_mk, hc61_23, hc119_24, hc126_28, hc133_32, hc140_36, hc147_40] : own_isp (own_mk k c1 c5 c9 c13 c17) = (0 : Int32))).2 ?_
              refine own_iconst X42 hx (1 : Int32) (hb hby at_173) (by decide) rfl ?_
              refine own_goto X42 hx (hb hby at_174) (by decide) rfl ?_
              exact own_retNH X42 hx hZ rfl HH42 hEL hlocks hret (by simp) (hb hby at_178) (by decide) (by decide) (by decide) ⟨rfl, N42⟩
            · refine own_iconst X21 hx (1 : Int32) (hb hby at_150) (by decide) rfl ?_
              refine own_goto X21 hx (hb hby at_151) (by decide) rfl ?_
              refine own_istore X21 hx #[.val (.int p0), .val (.int p1), .val (.int p2), .val (.int p3), .val (.int p4), .val (.int p5), .val (.int k), .val (.int c1), .val (.int c5), .val (.int c9), .val (.int c13), .val (.int c17), .val (.ref a21), .val (.int (1 : Int32))] (hb hby at_155) rfl rfl ?_
              refine own_goto X21 hx (hb hby at_157) (by decide) rfl ?_
              refine own_aload X21 hx (hb hby at_163) rfl rfl rfl ?_
              have f44 := (f20.keep Kq21 all0)
              refine own_staticH X21 hx hZ (y := (⟨"com/example/pincio/pincio/core/CanonicalLiterals", "isSpecial", "(Ljava/lang/String;)Z"⟩ : MethodName)) hown (hw _ (List.mem_of_getElem? (i := 32) rfl)) (hw _ (List.mem_of_getElem? (i := 33) rfl)) (hw _ (List.mem_of_getElem? (i := 34) rfl)) (hw _ (List.mem_of_getElem? (i := 35) rfl)) (by decide) HH21 hEL rfl (by decide) (W := 0) (by decide) (by decide) (by decide) [(.ref a21)] [] (by rw [hml]; rfl) (own_isSpecial l Z a0 hw a21 (own_mk k c1 c5 c9 c13 c17) zc T21.heap n0 hEL f44 SC hzc SA SH SL ⟨_, _, _, _, _, Es21, Vs21, Cs21, Ks21, cod21, hbd21, hle21⟩) own_pd12 rfl rfl rfl (hb hby at_165) rfl ?_
              intro v45 T45 L45 X45 hQ45 hZ hown HH45 A45
              obtain ⟨rfl, Nq45, Kq45⟩ := hQ45
              have N45 := Fr.app N21 Nq45
              have K46 := K22.trans Kq45 all0
              show own_Ends p e below _ (T45.setTop (mkF m 168 #[.val (.int p0), .val (.int p1), .val (.int p2), .val (.int p3), .val (.int p4), .val (.int p5), .val (.int k), .val (.int c1), .val (.int c5), .val (.int c9), .val (.int c13), .val (.int c17), .val (.ref a21), .val (.int (1 : Int32))] [(.int (own_isp (own_mk k c1 c5 c9 c13 c17)))]))
              refine own_iload X45 hx (hb hby at_168) rfl rfl ?_
              refine own_icmpF X45 hx (hb hby at_170) rfl (teq (by simp [own_isp, own_mk, hc61_23, hc119_24, hc126_28, hc133_32, hc140_36, hc147_40] : own_isp (own_mk k c1 c5 c9 c13 c17) = (1 : Int32))).2 ?_
              refine own_iconst X45 hx (1 : Int32) (hb hby at_173) (by decide) rfl ?_
              refine own_goto X45 hx (hb hby at_174) (by decide) rfl ?_
              exact own_retNH X45 hx hZ rfl HH45 hEL hlocks hret (by simp) (hb hby at_178) (by decide) (by decide) (by decide) ⟨rfl, N45⟩
  · refine own_iload X21 hx (hb hby at_64) rfl rfl ?_
    refine own_bipush X21 hx (73 : Int32) (hb hby at_66) (by decide) rfl ?_
    refine own_icmp_ne X21 hx (hb hby at_68) (by decide) rfl rfl (fun hc68_47 => ?_) (fun hc68_47 => ?_)
    · refine own_iload X21 hx (hb hby at_85) rfl rfl ?_
      refine own_bipush X21 hx (78 : Int32) (hb hby at_87) (by decide) rfl ?_
      refine own_icmp_ne X21 hx (hb hby at_89) (by decide) rfl rfl (fun hc89_48 => ?_) (fun hc89_48 => ?_)
      · refine own_iconst X21 hx (0 : Int32) (hb hby at_110) (by decide) rfl ?_
        refine own_istore X21 hx #[.val (.int p0), .val (.int p1), .val (.int p2), .val (.int p3), .val (.int p4), .val (.int p5), .val (.int k), .val (.int c1), .val (.int c5), .val (.int c9), .val (.int c13), .val (.int c17), .val (.ref a21), .val (.int (0 : Int32))] (hb hby at_111) rfl rfl ?_
        refine own_goto X21 hx (hb hby at_113) (by decide) rfl ?_
        refine own_aload X21 hx (hb hby at_163) rfl rfl rfl ?_
        have f49 := (f20.keep Kq21 all0)
        refine own_staticH X21 hx hZ (y := (⟨"com/example/pincio/pincio/core/CanonicalLiterals", "isSpecial", "(Ljava/lang/String;)Z"⟩ : MethodName)) hown (hw _ (List.mem_of_getElem? (i := 32) rfl)) (hw _ (List.mem_of_getElem? (i := 33) rfl)) (hw _ (List.mem_of_getElem? (i := 34) rfl)) (hw _ (List.mem_of_getElem? (i := 35) rfl)) (by decide) HH21 hEL rfl (by decide) (W := 0) (by decide) (by decide) (by decide) [(.ref a21)] [] (by rw [hml]; rfl) (own_isSpecial l Z a0 hw a21 (own_mk k c1 c5 c9 c13 c17) zc T21.heap n0 hEL f49 SC hzc SA SH SL ⟨_, _, _, _, _, Es21, Vs21, Cs21, Ks21, cod21, hbd21, hle21⟩) own_pd12 rfl rfl rfl (hb hby at_165) rfl ?_
        intro v50 T50 L50 X50 hQ50 hZ hown HH50 A50
        obtain ⟨rfl, Nq50, Kq50⟩ := hQ50
        have N50 := Fr.app N21 Nq50
        have K51 := K22.trans Kq50 all0
        show own_Ends p e below _ (T50.setTop (mkF m 168 #[.val (.int p0), .val (.int p1), .val (.int p2), .val (.int p3), .val (.int p4), .val (.int p5), .val (.int k), .val (.int c1), .val (.int c5), .val (.int c9), .val (.int c13), .val (.int c17), .val (.ref a21), .val (.int (0 : Int32))] [(.int (own_isp (own_mk k c1 c5 c9 c13 c17)))]))
        refine own_iload X50 hx (hb hby at_168) rfl rfl ?_
        refine own_icmpF X50 hx (hb hby at_170) rfl (teq (by simp [own_isp, own_mk, hc61_23, hc68_47, hc89_48] : own_isp (own_mk k c1 c5 c9 c13 c17) = (0 : Int32))).2 ?_
        refine own_iconst X50 hx (1 : Int32) (hb hby at_173) (by decide) rfl ?_
        refine own_goto X50 hx (hb hby at_174) (by decide) rfl ?_
        exact own_retNH X50 hx hZ rfl HH50 hEL hlocks hret (by simp) (hb hby at_178) (by decide) (by decide) (by decide) ⟨rfl, N50⟩
      · refine own_iload X21 hx (hb hby at_92) rfl rfl ?_
        refine own_bipush X21 hx (97 : Int32) (hb hby at_94) (by decide) rfl ?_
        refine own_icmp_ne X21 hx (hb hby at_96) (by decide) rfl rfl (fun hc96_52 => ?_) (fun hc96_52 => ?_)
        · refine own_iconst X21 hx (0 : Int32) (hb hby at_110) (by decide) rfl ?_
          refine own_istore X21 hx #[.val (.int p0), .val (.int p1), .val (.int p2), .val (.int p3), .val (.int p4), .val (.int p5), .val (.int k), .val (.int c1), .val (.int c5), .val (.int c9), .val (.int c13), .val (.int c17), .val (.ref a21), .val (.int (0 : Int32))] (hb hby at_111) rfl rfl ?_
          refine own_goto X21 hx (hb hby at_113) (by decide) rfl ?_
          refine own_aload X21 hx (hb hby at_163) rfl rfl rfl ?_
          have f53 := (f20.keep Kq21 all0)
          refine own_staticH X21 hx hZ (y := (⟨"com/example/pincio/pincio/core/CanonicalLiterals", "isSpecial", "(Ljava/lang/String;)Z"⟩ : MethodName)) hown (hw _ (List.mem_of_getElem? (i := 32) rfl)) (hw _ (List.mem_of_getElem? (i := 33) rfl)) (hw _ (List.mem_of_getElem? (i := 34) rfl)) (hw _ (List.mem_of_getElem? (i := 35) rfl)) (by decide) HH21 hEL rfl (by decide) (W := 0) (by decide) (by decide) (by decide) [(.ref a21)] [] (by rw [hml]; rfl) (own_isSpecial l Z a0 hw a21 (own_mk k c1 c5 c9 c13 c17) zc T21.heap n0 hEL f53 SC hzc SA SH SL ⟨_, _, _, _, _, Es21, Vs21, Cs21, Ks21, cod21, hbd21, hle21⟩) own_pd12 rfl rfl rfl (hb hby at_165) rfl ?_
          intro v54 T54 L54 X54 hQ54 hZ hown HH54 A54
          obtain ⟨rfl, Nq54, Kq54⟩ := hQ54
          have N54 := Fr.app N21 Nq54
          have K55 := K22.trans Kq54 all0
          show own_Ends p e below _ (T54.setTop (mkF m 168 #[.val (.int p0), .val (.int p1), .val (.int p2), .val (.int p3), .val (.int p4), .val (.int p5), .val (.int k), .val (.int c1), .val (.int c5), .val (.int c9), .val (.int c13), .val (.int c17), .val (.ref a21), .val (.int (0 : Int32))] [(.int (own_isp (own_mk k c1 c5 c9 c13 c17)))]))
          refine own_iload X54 hx (hb hby at_168) rfl rfl ?_
          refine own_icmpF X54 hx (hb hby at_170) rfl (teq (by simp [own_isp, own_mk, hc61_23, hc68_47, hc89_48, hc96_52] : own_isp (own_mk k c1 c5 c9 c13 c17) = (0 : Int32))).2 ?_
          refine own_iconst X54 hx (1 : Int32) (hb hby at_173) (by decide) rfl ?_
          refine own_goto X54 hx (hb hby at_174) (by decide) rfl ?_
          exact own_retNH X54 hx hZ rfl HH54 hEL hlocks hret (by simp) (hb hby at_178) (by decide) (by decide) (by decide) ⟨rfl, N54⟩
        · refine own_iload X21 hx (hb hby at_99) rfl rfl ?_
          refine own_bipush X21 hx (78 : Int32) (hb hby at_101) (by decide) rfl ?_
          refine own_icmp_ne X21 hx (hb hby at_103) (by decide) rfl rfl (fun hc103_56 => ?_) (fun hc103_56 => ?_)
          · refine own_iconst X21 hx (0 : Int32) (hb hby at_110) (by decide) rfl ?_
            refine own_istore X21 hx #[.val (.int p0), .val (.int p1), .val (.int p2), .val (.int p3), .val (.int p4), .val (.int p5), .val (.int k), .val (.int c1), .val (.int c5), .val (.int c9), .val (.int c13), .val (.int c17), .val (.ref a21), .val (.int (0 : Int32))] (hb hby at_111) rfl rfl ?_
            refine own_goto X21 hx (hb hby at_113) (by decide) rfl ?_
            refine own_aload X21 hx (hb hby at_163) rfl rfl rfl ?_
            have f57 := (f20.keep Kq21 all0)
            refine own_staticH X21 hx hZ (y := (⟨"com/example/pincio/pincio/core/CanonicalLiterals", "isSpecial", "(Ljava/lang/String;)Z"⟩ : MethodName)) hown (hw _ (List.mem_of_getElem? (i := 32) rfl)) (hw _ (List.mem_of_getElem? (i := 33) rfl)) (hw _ (List.mem_of_getElem? (i := 34) rfl)) (hw _ (List.mem_of_getElem? (i := 35) rfl)) (by decide) HH21 hEL rfl (by decide) (W := 0) (by decide) (by decide) (by decide) [(.ref a21)] [] (by rw [hml]; rfl) (own_isSpecial l Z a0 hw a21 (own_mk k c1 c5 c9 c13 c17) zc T21.heap n0 hEL f57 SC hzc SA SH SL ⟨_, _, _, _, _, Es21, Vs21, Cs21, Ks21, cod21, hbd21, hle21⟩) own_pd12 rfl rfl rfl (hb hby at_165) rfl ?_
            intro v58 T58 L58 X58 hQ58 hZ hown HH58 A58
            obtain ⟨rfl, Nq58, Kq58⟩ := hQ58
            have N58 := Fr.app N21 Nq58
            have K59 := K22.trans Kq58 all0
            show own_Ends p e below _ (T58.setTop (mkF m 168 #[.val (.int p0), .val (.int p1), .val (.int p2), .val (.int p3), .val (.int p4), .val (.int p5), .val (.int k), .val (.int c1), .val (.int c5), .val (.int c9), .val (.int c13), .val (.int c17), .val (.ref a21), .val (.int (0 : Int32))] [(.int (own_isp (own_mk k c1 c5 c9 c13 c17)))]))
            refine own_iload X58 hx (hb hby at_168) rfl rfl ?_
            refine own_icmpF X58 hx (hb hby at_170) rfl (teq (by simp [own_isp, own_mk, hc61_23, hc68_47, hc89_48, hc96_52, hc103_56] : own_isp (own_mk k c1 c5 c9 c13 c17) = (0 : Int32))).2 ?_
            refine own_iconst X58 hx (1 : Int32) (hb hby at_173) (by decide) rfl ?_
            refine own_goto X58 hx (hb hby at_174) (by decide) rfl ?_
            exact own_retNH X58 hx hZ rfl HH58 hEL hlocks hret (by simp) (hb hby at_178) (by decide) (by decide) (by decide) ⟨rfl, N58⟩
          · refine own_iconst X21 hx (1 : Int32) (hb hby at_106) (by decide) rfl ?_
            refine own_goto X21 hx (hb hby at_107) (by decide) rfl ?_
            refine own_istore X21 hx #[.val (.int p0), .val (.int p1), .val (.int p2), .val (.int p3), .val (.int p4), .val (.int p5), .val (.int k), .val (.int c1), .val (.int c5), .val (.int c9), .val (.int c13), .val (.int c17), .val (.ref a21), .val (.int (1 : Int32))] (hb hby at_111) rfl rfl ?_
            refine own_goto X21 hx (hb hby at_113) (by decide) rfl ?_
            refine own_aload X21 hx (hb hby at_163) rfl rfl rfl ?_
            have f60 := (f20.keep Kq21 all0)
            refine own_staticH X21 hx hZ (y := (⟨"com/example/pincio/pincio/core/CanonicalLiterals", "isSpecial", "(Ljava/lang/String;)Z"⟩ : MethodName)) hown (hw _ (List.mem_of_getElem? (i := 32) rfl)) (hw _ (List.mem_of_getElem? (i := 33) rfl)) (hw _ (List.mem_of_getElem? (i := 34) rfl)) (hw _ (List.mem_of_getElem? (i := 35) rfl)) (by decide) HH21 hEL rfl (by decide) (W := 0) (by decide) (by decide) (by decide) [(.ref a21)] [] (by rw [hml]; rfl) (own_isSpecial l Z a0 hw a21 (own_mk k c1 c5 c9 c13 c17) zc T21.heap n0 hEL f60 SC hzc SA SH SL ⟨_, _, _, _, _, Es21, Vs21, Cs21, Ks21, cod21, hbd21, hle21⟩) own_pd12 rfl rfl rfl (hb hby at_165) rfl ?_
            intro v61 T61 L61 X61 hQ61 hZ hown HH61 A61
            obtain ⟨rfl, Nq61, Kq61⟩ := hQ61
            have N61 := Fr.app N21 Nq61
            have K62 := K22.trans Kq61 all0
            show own_Ends p e below _ (T61.setTop (mkF m 168 #[.val (.int p0), .val (.int p1), .val (.int p2), .val (.int p3), .val (.int p4), .val (.int p5), .val (.int k), .val (.int c1), .val (.int c5), .val (.int c9), .val (.int c13), .val (.int c17), .val (.ref a21), .val (.int (1 : Int32))] [(.int (own_isp (own_mk k c1 c5 c9 c13 c17)))]))
            refine own_iload X61 hx (hb hby at_168) rfl rfl ?_
            refine own_icmpF X61 hx (hb hby at_170) rfl (teq (by simp [own_isp, own_mk, hc61_23, hc68_47, hc89_48, hc96_52, hc103_56] : own_isp (own_mk k c1 c5 c9 c13 c17) = (1 : Int32))).2 ?_
            refine own_iconst X61 hx (1 : Int32) (hb hby at_173) (by decide) rfl ?_
            refine own_goto X61 hx (hb hby at_174) (by decide) rfl ?_
            exact own_retNH X61 hx hZ rfl HH61 hEL hlocks hret (by simp) (hb hby at_178) (by decide) (by decide) (by decide) ⟨rfl, N61⟩
    · refine own_iload X21 hx (hb hby at_71) rfl rfl ?_
      refine own_bipush X21 hx (78 : Int32) (hb hby at_73) (by decide) rfl ?_
      refine own_icmp_ne X21 hx (hb hby at_75) (by decide) rfl rfl (fun hc75_63 => ?_) (fun hc75_63 => ?_)
      · refine own_iload X21 hx (hb hby at_85) rfl rfl ?_
        refine own_bipush X21 hx (78 : Int32) (hb hby at_87) (by decide) rfl ?_
        refine own_icmpT X21 hx (hb hby at_89) (by decide) rfl (by rw [hc68_47]; decide) ?_
        refine own_iconst X21 hx (0 : Int32) (hb hby at_110) (by decide) rfl ?_
        refine own_istore X21 hx #[.val (.int p0), .val (.int p1), .val (.int p2), .val (.int p3), .val (.int p4), .val (.int p5), .val (.int k), .val (.int c1), .val (.int c5), .val (.int c9), .val (.int c13), .val (.int c17), .val (.ref a21), .val (.int (0 : Int32))] (hb hby at_111) rfl rfl ?_
        refine own_goto X21 hx (hb hby at_113) (by decide) rfl ?_
        refine own_aload X21 hx (hb hby at_163) rfl rfl rfl ?_
        have f64 := (f20.keep Kq21 all0)
        refine own_staticH X21 hx hZ (y := (⟨"com/example/pincio/pincio/core/CanonicalLiterals", "isSpecial", "(Ljava/lang/String;)Z"⟩ : MethodName)) hown (hw _ (List.mem_of_getElem? (i := 32) rfl)) (hw _ (List.mem_of_getElem? (i := 33) rfl)) (hw _ (List.mem_of_getElem? (i := 34) rfl)) (hw _ (List.mem_of_getElem? (i := 35) rfl)) (by decide) HH21 hEL rfl (by decide) (W := 0) (by decide) (by decide) (by decide) [(.ref a21)] [] (by rw [hml]; rfl) (own_isSpecial l Z a0 hw a21 (own_mk k c1 c5 c9 c13 c17) zc T21.heap n0 hEL f64 SC hzc SA SH SL ⟨_, _, _, _, _, Es21, Vs21, Cs21, Ks21, cod21, hbd21, hle21⟩) own_pd12 rfl rfl rfl (hb hby at_165) rfl ?_
        intro v65 T65 L65 X65 hQ65 hZ hown HH65 A65
        obtain ⟨rfl, Nq65, Kq65⟩ := hQ65
        have N65 := Fr.app N21 Nq65
        have K66 := K22.trans Kq65 all0
        show own_Ends p e below _ (T65.setTop (mkF m 168 #[.val (.int p0), .val (.int p1), .val (.int p2), .val (.int p3), .val (.int p4), .val (.int p5), .val (.int k), .val (.int c1), .val (.int c5), .val (.int c9), .val (.int c13), .val (.int c17), .val (.ref a21), .val (.int (0 : Int32))] [(.int (own_isp (own_mk k c1 c5 c9 c13 c17)))]))
        refine own_iload X65 hx (hb hby at_168) rfl rfl ?_
        refine own_icmpF X65 hx (hb hby at_170) rfl (teq (by simp [own_isp, own_mk, hc61_23, hc68_47, hc75_63] : own_isp (own_mk k c1 c5 c9 c13 c17) = (0 : Int32))).2 ?_
        refine own_iconst X65 hx (1 : Int32) (hb hby at_173) (by decide) rfl ?_
        refine own_goto X65 hx (hb hby at_174) (by decide) rfl ?_
        exact own_retNH X65 hx hZ rfl HH65 hEL hlocks hret (by simp) (hb hby at_178) (by decide) (by decide) (by decide) ⟨rfl, N65⟩
      · refine own_iload X21 hx (hb hby at_78) rfl rfl ?_
        refine own_bipush X21 hx (70 : Int32) (hb hby at_80) (by decide) rfl ?_
        refine own_icmp_eq X21 hx (hb hby at_82) (by decide) rfl rfl (fun hc82_67 => ?_) (fun hc82_67 => ?_)
        · refine own_iconst X21 hx (1 : Int32) (hb hby at_106) (by decide) rfl ?_
          refine own_goto X21 hx (hb hby at_107) (by decide) rfl ?_
          refine own_istore X21 hx #[.val (.int p0), .val (.int p1), .val (.int p2), .val (.int p3), .val (.int p4), .val (.int p5), .val (.int k), .val (.int c1), .val (.int c5), .val (.int c9), .val (.int c13), .val (.int c17), .val (.ref a21), .val (.int (1 : Int32))] (hb hby at_111) rfl rfl ?_
          refine own_goto X21 hx (hb hby at_113) (by decide) rfl ?_
          refine own_aload X21 hx (hb hby at_163) rfl rfl rfl ?_
          have f68 := (f20.keep Kq21 all0)
          refine own_staticH X21 hx hZ (y := (⟨"com/example/pincio/pincio/core/CanonicalLiterals", "isSpecial", "(Ljava/lang/String;)Z"⟩ : MethodName)) hown (hw _ (List.mem_of_getElem? (i := 32) rfl)) (hw _ (List.mem_of_getElem? (i := 33) rfl)) (hw _ (List.mem_of_getElem? (i := 34) rfl)) (hw _ (List.mem_of_getElem? (i := 35) rfl)) (by decide) HH21 hEL rfl (by decide) (W := 0) (by decide) (by decide) (by decide) [(.ref a21)] [] (by rw [hml]; rfl) (own_isSpecial l Z a0 hw a21 (own_mk k c1 c5 c9 c13 c17) zc T21.heap n0 hEL f68 SC hzc SA SH SL ⟨_, _, _, _, _, Es21, Vs21, Cs21, Ks21, cod21, hbd21, hle21⟩) own_pd12 rfl rfl rfl (hb hby at_165) rfl ?_
          intro v69 T69 L69 X69 hQ69 hZ hown HH69 A69
          obtain ⟨rfl, Nq69, Kq69⟩ := hQ69
          have N69 := Fr.app N21 Nq69
          have K70 := K22.trans Kq69 all0
          show own_Ends p e below _ (T69.setTop (mkF m 168 #[.val (.int p0), .val (.int p1), .val (.int p2), .val (.int p3), .val (.int p4), .val (.int p5), .val (.int k), .val (.int c1), .val (.int c5), .val (.int c9), .val (.int c13), .val (.int c17), .val (.ref a21), .val (.int (1 : Int32))] [(.int (own_isp (own_mk k c1 c5 c9 c13 c17)))]))
          refine own_iload X69 hx (hb hby at_168) rfl rfl ?_
          refine own_icmpF X69 hx (hb hby at_170) rfl (teq (by simp [own_isp, own_mk, hc61_23, hc68_47, hc75_63, hc82_67] : own_isp (own_mk k c1 c5 c9 c13 c17) = (1 : Int32))).2 ?_
          refine own_iconst X69 hx (1 : Int32) (hb hby at_173) (by decide) rfl ?_
          refine own_goto X69 hx (hb hby at_174) (by decide) rfl ?_
          exact own_retNH X69 hx hZ rfl HH69 hEL hlocks hret (by simp) (hb hby at_178) (by decide) (by decide) (by decide) ⟨rfl, N69⟩
        · refine own_iload X21 hx (hb hby at_85) rfl rfl ?_
          refine own_bipush X21 hx (78 : Int32) (hb hby at_87) (by decide) rfl ?_
          refine own_icmpT X21 hx (hb hby at_89) (by decide) rfl (by rw [hc68_47]; decide) ?_
          refine own_iconst X21 hx (0 : Int32) (hb hby at_110) (by decide) rfl ?_
          refine own_istore X21 hx #[.val (.int p0), .val (.int p1), .val (.int p2), .val (.int p3), .val (.int p4), .val (.int p5), .val (.int k), .val (.int c1), .val (.int c5), .val (.int c9), .val (.int c13), .val (.int c17), .val (.ref a21), .val (.int (0 : Int32))] (hb hby at_111) rfl rfl ?_
          refine own_goto X21 hx (hb hby at_113) (by decide) rfl ?_
          refine own_aload X21 hx (hb hby at_163) rfl rfl rfl ?_
          have f71 := (f20.keep Kq21 all0)
          refine own_staticH X21 hx hZ (y := (⟨"com/example/pincio/pincio/core/CanonicalLiterals", "isSpecial", "(Ljava/lang/String;)Z"⟩ : MethodName)) hown (hw _ (List.mem_of_getElem? (i := 32) rfl)) (hw _ (List.mem_of_getElem? (i := 33) rfl)) (hw _ (List.mem_of_getElem? (i := 34) rfl)) (hw _ (List.mem_of_getElem? (i := 35) rfl)) (by decide) HH21 hEL rfl (by decide) (W := 0) (by decide) (by decide) (by decide) [(.ref a21)] [] (by rw [hml]; rfl) (own_isSpecial l Z a0 hw a21 (own_mk k c1 c5 c9 c13 c17) zc T21.heap n0 hEL f71 SC hzc SA SH SL ⟨_, _, _, _, _, Es21, Vs21, Cs21, Ks21, cod21, hbd21, hle21⟩) own_pd12 rfl rfl rfl (hb hby at_165) rfl ?_
          intro v72 T72 L72 X72 hQ72 hZ hown HH72 A72
          obtain ⟨rfl, Nq72, Kq72⟩ := hQ72
          have N72 := Fr.app N21 Nq72
          have K73 := K22.trans Kq72 all0
          show own_Ends p e below _ (T72.setTop (mkF m 168 #[.val (.int p0), .val (.int p1), .val (.int p2), .val (.int p3), .val (.int p4), .val (.int p5), .val (.int k), .val (.int c1), .val (.int c5), .val (.int c9), .val (.int c13), .val (.int c17), .val (.ref a21), .val (.int (0 : Int32))] [(.int (own_isp (own_mk k c1 c5 c9 c13 c17)))]))
          refine own_iload X72 hx (hb hby at_168) rfl rfl ?_
          refine own_icmpF X72 hx (hb hby at_170) rfl (teq (by simp [own_isp, own_mk, hc61_23, hc68_47, hc75_63, hc82_67] : own_isp (own_mk k c1 c5 c9 c13 c17) = (0 : Int32))).2 ?_
          refine own_iconst X72 hx (1 : Int32) (hb hby at_173) (by decide) rfl ?_
          refine own_goto X72 hx (hb hby at_174) (by decide) rfl ?_
          exact own_retNH X72 hx hZ rfl HH72 hEL hlocks hret (by simp) (hb hby at_178) (by decide) (by decide) (by decide) ⟨rfl, N72⟩
theorem own_staI {args : Array Value} {s : State} {C n d : String} {k : Int32} (h : (Jvm.Cond.eq (.static C n d) (.int k)).value args s none s [] = some true) : (Term.static C n d).eval args s none [] s = some (.int k) := by
  cases hv : (Term.static C n d).eval args s none [] s with
  | none => simp [Cond.value, hv] at h
  | some v =>
    have e2 : (Term.int k).eval args s none [] s = some (.int k) := rfl
    cases v <;> simp_all [Cond.value]
set_option maxRecDepth 65536 in
set_option maxHeartbeats 40000000 in
theorem comes_1 {Post : Tables → Env → Array Value → State → Outcome → State → Prop} (hpost : ∀ tb e args s v u, (limb_1_1.after args s (.returned v) u = true ∧ limb_1_2.after args s (.returned v) u = true ∧ True) → ReturnedEndW s (.returned v) u (Jvm.fieldLocs frame_1_writes args s ++ Jvm.arrayLocs frame_1_arrays args s ++ Jvm.staticLocs frame_1_statics s) 32 4288 → Post tb e args s (.returned v) u) :
    ArmFor flags0 classFile x code maxLocals ret World_1 tables_1 room_1 Calls_1 rest_1 Pre_1 Post := by
  intro l hfl _ _ p e ha hc hk s m args below hf hA hF happ hP
  obtain ⟨hcalls, hrest, hpre⟩ := hP
  obtain ⟨-, -, -, hnamed, -, -, -, hat⟩ := (Spec.applies_iff hf).mp happ
  obtain ⟨hg, hn⟩ := and_e (Cond.before_iff.mp (show (Jvm.Cond.and given_1 narrow_1).before args s = true from hpre))
  obtain ⟨k1a, k1b⟩ := and_e hg
  obtain ⟨k2a, k2b⟩ := and_e k1b
  obtain ⟨k3a, k3b⟩ := and_e k2b
  obtain ⟨k4a, k4b⟩ := and_e k3b
  obtain ⟨k5a, k5b⟩ := and_e k4b
  obtain ⟨k6a, k6b⟩ := and_e k5b
  obtain ⟨w0, w1, w2, w3, w4, w5, rfl⟩ : ∃ w0 w1 w2 w3 w4 w5 : Value, args = #[w0, w1, w2, w3, w4, w5] := by
    have hs : args.size = 6 := by simpa [Cond.value, given_1] using k1a
    obtain ⟨L⟩ := args
    match L, hs with
    | [w0, w1, w2, w3, w4, w5], _ => exact ⟨w0, w1, w2, w3, w4, w5, rfl⟩
  have hw := fun d (hd : d ∈ tables_1) => atoms_spec (ws := Jvm.Cond.code x code maxLocals ret :: tables_1) hat d (List.mem_cons_of_mem _ hd)
  have hfit : Fit s := fun {y c} hc i hi => by
    obtain ⟨ha, rfl⟩ := Array.getElem?_eq_some_iff.mp hc
    have q := List.all_eq_true.mp ((Array.all_eq_true_iff_forall_mem.mp hF) _ (Array.getElem_mem ha)) i (List.mem_range.mpr hi)
    simpa [Array.getElem?_eq_getElem hi] using q
  obtain ⟨hsets, hown0⟩ := atoms_of _ (rest_1_c_eq ▸ (show rest_1_c.before _ s = true from hrest))
  obtain ⟨i0, ei0⟩ := is_v k2a
  obtain rfl : w0 = (.int i0) := Option.some.inj ei0
  obtain ⟨i1, ei1⟩ := is_v k3a
  obtain rfl : w1 = (.int i1) := Option.some.inj ei1
  obtain ⟨i2, ei2⟩ := is_v k4a
  obtain rfl : w2 = (.int i2) := Option.some.inj ei2
  obtain ⟨i3, ei3⟩ := is_v k5a
  obtain rfl : w3 = (.int i3) := Option.some.inj ei3
  obtain ⟨i4, ei4⟩ := is_v k6a
  obtain rfl : w4 = (.int i4) := Option.some.inj ei4
  obtain ⟨i5, ei5⟩ := is_v k6b
  obtain rfl : w5 = (.int i5) := Option.some.inj ei5
  have nzc := not_v (Cond.before_iff.mp (hsets _ (List.mem_of_getElem? (i := 2) rfl)))
  obtain ⟨zc, ezc⟩ := is_v (Cond.before_iff.mp (hsets _ (List.mem_of_getElem? (i := 1) rfl)))
  have SC := Sta.start ezc (Or.inl (hsets _ (List.mem_of_getElem? (i := 0) rfl)))
  have hzc : ¬ (zc = (0 : Int32)) := gotF (Cond.eq_ints ezc (Term.int_eval (0))) nzc
  have hEL : EW s _ consts_1 := (EW.cons (hw _ (List.mem_of_getElem? (i := 36) rfl)) (by decide) (EW.cons (hw _ (List.mem_of_getElem? (i := 48) rfl)) (by decide) (EW.cons (hw _ (List.mem_of_getElem? (i := 49) rfl)) (by decide) (EW.cons (hw _ (List.mem_of_getElem? (i := 24) rfl)) (by decide) EW.nil))))
  have hCH := CHv.start hEL (fun p hp => (hcalls.1 p hp :)) (show Jvm.Lit.compactW.before _ s = true from (hsets _ (List.mem_of_getElem? (i := 2) rfl))) (hw _ (List.mem_of_getElem? (i := 25) rfl)) (hw _ (List.mem_of_getElem? (i := 11) rfl))
  have SA := Sta.start (own_staI (Cond.before_iff.mp (hsets _ (List.mem_of_getElem? (i := 12) rfl)))) (Or.inl (hsets _ (List.mem_of_getElem? (i := 11) rfl)))
  have SH := Sta.start (own_staI (Cond.before_iff.mp (hsets _ (List.mem_of_getElem? (i := 15) rfl)))) (Or.inl (hsets _ (List.mem_of_getElem? (i := 14) rfl)))
  have SL := Sta.start (own_staI (Cond.before_iff.mp (hsets _ (List.mem_of_getElem? (i := 18) rfl)))) (Or.inl (hsets _ (List.mem_of_getElem? (i := 17) rfl)))
  obtain ⟨n, o, h1, h2, h3, _, L, rfl, ⟨rfl, N⟩, hC, hq⟩ := own_law l s _ hw i0 i1 i2 i3 i4 i5 zc s.heap s.heap.size hEL (Old.start s) SC hzc SA SH SL tables_1 p e ha hc hk s m _ below hf ((Spec.applies_iff_loose hf).mp happ).1 ⟨rfl, State.Warmed39.refl s, rfl, hCH⟩ trivial
  refine ⟨n, _, h1, h2, h3, hpost _ _ _ _ _ _ ⟨Cond.after_iff.mpr rfl, Cond.after_iff.mpr (eq_i res_at (Term.int_eval (1)) rfl), trivial⟩ ⟨hq.1, hq.2.1, hq.2.2.1, (hq.2.2.2.sift fun y hy => Or.inr (N y hy)).mono (by decide) (by decide)⟩⟩
theorem main_1_1 : Claimed_1_1 := comes_1 fun _ _ _ _ _ _ h hF => ⟨h.1, hF⟩
theorem main_1_2 : Claimed_1_2 := comes_1 fun _ _ _ _ _ _ h hF => ⟨h.2.1, hF⟩
end Jvm.Pilot.@@N@@
namespace Jvm.Pilot.@@N@@
open Jvm Jvm.ClassFile Sem Op Lib Jvm.Free Jvm.Stand Jvm.Pilot.@@N@@.Jvm.D
/-! MADE BY PROGRAM (witnessworld.py) out of the Statement's table words and the real class files: 20 classes; the members and pool entries that the words name. The judged class is class 1, her method 3. -/
namespace start1
open Jvm.ClassFile
def u (s : String) : CpInfo := .utf8 (stringToUtf16 s)
/-- a pool by its gaps: so many unusable entries, then the entry; so many at the end -/
def gap : Nat → List CpInfo → List CpInfo
  | 0, r => r
  | n + 1, r => .unusable :: gap n r
def poolList (es : List (Nat × CpInfo)) (last : Nat) : List CpInfo := es.foldr (fun e r => gap e.1 (e.2 :: r)) (gap last [])
def pool (es : List (Nat × CpInfo)) (last : Nat) : Array CpInfo := ⟨poolList es last⟩
def fileOf (pool : Array CpInfo) (this : Nat) (attrs : Array Attribute := #[]) (ms : Array MethodInfo := #[]) (fl : Nat := 33) (sup : Nat := 0) (ifs : Array Nat := #[]) (fds : Array FieldInfo := #[]) : ClassFile where
  minorVersion := 0
  majorVersion := 65
  constantPool := pool
  accessFlags := fl
  thisClass := this
  superClass := sup
  interfaces := ifs
  fields := fds
  methods := ms
  attributes := attrs
def plain (name : String) (sup : Option ClassId) : Class where
  name := name
  kind := .ordinary
  loader := none
  accessFlags := 33
  super := sup
  interfaces := #[]
  cf := none
  fields := #[]
  methods := #[]
  instanceTypes := #[]
  staticTypes := #[]
  resolved := #[]
  callSites := []
  init := .initialized
  statics := none
  mirror := none

def pool0 : Array CpInfo := pool [(5, u "<init>"), (0, u "()V"), (1, .class_ 10), (1, u "java/lang/Object")] 113

def k0c0 : Code := { maxStack := 0, maxLocals := 1, code := object_method_1_code, exceptionTable := #[], attributes := #[] }
def k0m0 : Method := { name := "<init>", desc := "()V", sig := { parameters := [], returnType := none }, accessFlags := 1, code := some k0c0 }
/-- java/lang/Object -/
def k0 : Class := { plain "java/lang/Object" none with
  accessFlags := 33
  interfaces := #[]
  cf := some (fileOf pool0 8 #[] #[{ accessFlags := 1, nameIndex := 5, descriptorIndex := 6, attributes := #[] }] 33 0 #[] #[])
  fields := #[]
  methods := #[k0m0]
  instanceTypes := #[]
  staticTypes := #[]
  resolved := Array.replicate 124 none
  statics := none }

def pool1 : Array CpInfo := pool [(2, .class_ 4), (1, u "java/lang/Object"), (0, u "<init>"), (0, u "()V"), (0, .integer 1048576), (0, .integer 65535), (0, .class_ 10), (0, u "java/lang/String"), (0, .methodref 9 12), (0, .nameAndType 5 13), (0, u "([C)V"), (0, .integer 2147483647), (0, .methodref 16 17), (0, .class_ 18), (0, .nameAndType 19 20), (0, u "com/example/pincio/pincio/core/CanonicalLiteralsIsSpecialPinLaw"), (0, u "ch"), (0, u "(I)C"), (0, .methodref 16 22), (0, .nameAndType 23 24), (0, u "make"), (0, u "(ICCCCC)Ljava/lang/String;"), (0, .methodref 26 27), (0, .class_ 28), (0, .nameAndType 29 30), (0, u "com/example/pincio/pincio/core/CanonicalLiterals"), (0, u "isSpecial"), (0, u "(Ljava/lang/String;)Z"), (3, u "law"), (0, u "(IIIIII)Z")] 2

def k1m0 : Method := { name := "<init>", desc := "()V", sig := { parameters := [], returnType := none }, accessFlags := 2, code := none }
def k1c1 : Code := { maxStack := 4, maxLocals := 2, code := method_2_code, exceptionTable := #[], attributes := #[] }
def k1m1 : Method := { name := "ch", desc := "(I)C", sig := { parameters := [.int], returnType := some .char }, accessFlags := 10, code := some k1c1 }
def k1c2 : Code := { maxStack := 6, maxLocals := 6, code := method_3_code, exceptionTable := #[], attributes := #[] }
def k1m2 : Method := { name := "make", desc := "(ICCCCC)Ljava/lang/String;", sig := { parameters := [.int, .char, .char, .char, .char, .char], returnType := some (.object "java/lang/String") }, accessFlags := 10, code := some k1c2 }
def k1c3 : Code := { maxStack := 6, maxLocals := 14, code := code, exceptionTable := #[], attributes := #[] }
def k1m3 : Method := { name := "law", desc := "(IIIIII)Z", sig := { parameters := [.int, .int, .int, .int, .int, .int], returnType := some .boolean }, accessFlags := 9, code := some k1c3 }
/-- com/example/pincio/pincio/core/CanonicalLiteralsIsSpecialPinLaw -/
def k1 : Class := { plain "com/example/pincio/pincio/core/CanonicalLiteralsIsSpecialPinLaw" (some 0) with
  accessFlags := 49
  interfaces := #[]
  cf := some (fileOf pool1 16 #[] #[{ accessFlags := 2, nameIndex := 5, descriptorIndex := 6, attributes := #[] }, { accessFlags := 10, nameIndex := 19, descriptorIndex := 20, attributes := #[] }, { accessFlags := 10, nameIndex := 23, descriptorIndex := 24, attributes := #[] }, { accessFlags := 9, nameIndex := 34, descriptorIndex := 35, attributes := #[] }] 49 2 #[] #[])
  fields := #[]
  methods := #[k1m0, k1m1, k1m2, k1m3]
  instanceTypes := #[]
  staticTypes := #[]
  resolved := Array.replicate 38 none
  statics := none }

def pool2 : Array CpInfo := pool [(1, .class_ 2), (0, u "java/io/Serializable"), (0, .class_ 4), (0, u "java/lang/Object")] 2

/-- java/io/Serializable -/
def k2 : Class := { plain "java/io/Serializable" (some 0) with
  accessFlags := 1537
  interfaces := #[]
  cf := some (fileOf pool2 1 #[] #[] 1537 3 #[] #[])
  fields := #[]
  methods := #[]
  instanceTypes := #[]
  staticTypes := #[]
  resolved := Array.replicate 7 none
  statics := none }

def pool3 : Array CpInfo := pool [(1, .class_ 2), (0, u "java/lang/Comparable"), (0, .class_ 4), (0, u "java/lang/Object")] 7

/-- java/lang/Comparable -/
def k3 : Class := { plain "java/lang/Comparable" (some 0) with
  accessFlags := 1537
  interfaces := #[]
  cf := some (fileOf pool3 1 #[] #[] 1537 3 #[] #[])
  fields := #[]
  methods := #[]
  instanceTypes := #[]
  staticTypes := #[]
  resolved := Array.replicate 12 none
  statics := none }

def pool4 : Array CpInfo := pool [(2, .class_ 4), (1, u "java/lang/CharSequence"), (42, .class_ 48), (0, u "java/lang/CharSequence$1CodePointIterator"), (10, .class_ 60), (0, u "java/lang/CharSequence$1CharIterator"), (5, .class_ 67), (0, u "java/lang/Object")] 63

/-- java/lang/CharSequence -/
def k4 : Class := { plain "java/lang/CharSequence" (some 0) with
  accessFlags := 1537
  interfaces := #[]
  cf := some (fileOf pool4 2 #[.nestMembers #[47, 59]] #[] 1537 66 #[] #[])
  fields := #[]
  methods := #[]
  instanceTypes := #[]
  staticTypes := #[]
  resolved := Array.replicate 131 none
  statics := none }

def pool5 : Array CpInfo := pool [(1, .class_ 2), (0, u "java/lang/constant/Constable"), (0, .class_ 4), (0, u "java/lang/Object")] 6

/-- java/lang/constant/Constable -/
def k5 : Class := { plain "java/lang/constant/Constable" (some 0) with
  accessFlags := 1537
  interfaces := #[]
  cf := some (fileOf pool5 1 #[] #[] 1537 3 #[] #[])
  fields := #[]
  methods := #[]
  instanceTypes := #[]
  staticTypes := #[]
  resolved := Array.replicate 11 none
  statics := none }

def pool6 : Array CpInfo := pool [(1, .class_ 2), (0, u "java/lang/constant/ConstantDesc"), (0, .class_ 4), (0, u "java/lang/Object")] 32

/-- java/lang/constant/ConstantDesc -/
def k6 : Class := { plain "java/lang/constant/ConstantDesc" (some 0) with
  accessFlags := 1537
  interfaces := #[]
  cf := some (fileOf pool6 1 #[] #[] 1537 3 #[] #[])
  fields := #[]
  methods := #[]
  instanceTypes := #[]
  staticTypes := #[]
  resolved := Array.replicate 37 none
  statics := none }

def pool7 : Array CpInfo := pool [(1, .methodref 2 3), (0, .class_ 4), (0, .nameAndType 5 6), (0, u "java/lang/Object"), (0, u "<init>"), (0, u "()V"), (0, .string 8), (0, u ""), (0, .fieldref 10 11), (0, .class_ 12), (0, .nameAndType 13 14), (0, u "java/lang/String"), (0, u "value"), (0, u "[B"), (0, .fieldref 10 16), (0, .nameAndType 17 18), (0, u "coder"), (0, u "B"), (2, u "hash"), (0, u "I"), (2, u "hashIsZero"), (0, u "Z"), (0, .methodref 10 28), (0, .nameAndType 5 29), (0, u "([CIILjava/lang/Void;)V"), (8, .fieldref 10 39), (0, .nameAndType 40 26), (0, u "COMPACT_STRINGS"), (1, .class_ 44), (1, u "java/lang/StringUTF16"), (0, u "compress"), (1, .methodref 42 48), (0, .nameAndType 49 50), (0, u "coderFromArrayLen"), (0, u "([BI)B"), (56, .class_ 109), (1, u "java/lang/StringLatin1"), (67, .methodref 42 178), (0, .nameAndType 45 179), (0, u "([CII)[B"), (361, .methodref 107 542), (0, .nameAndType 543 544), (0, u "equals"), (0, u "([B[B)Z"), (28, u "(Ljava/lang/Object;)Z"), (1, .class_ 576), (0, u "java/lang/CharSequence"), (22, u "CASE_INSENSITIVE_ORDER"), (0, u "Ljava/util/Comparator;"), (409, u "([C)V"), (90, u "serialPersistentFields"), (0, u "[Ljava/io/ObjectStreamField;"), (0, .class_ 1104), (0, u "java/lang/String$CaseInsensitiveComparator"), (1, .class_ 1107), (0, u "java/io/Serializable"), (0, .class_ 1109), (0, u "java/lang/Comparable"), (0, .class_ 1111), (0, u "java/lang/constant/Constable"), (0, .class_ 1113), (0, u "java/lang/constant/ConstantDesc"), (2, u "serialVersionUID"), (0, u "J"), (3, u "REPL"), (0, u "C"), (2, u "LATIN1"), (1, u "UTF16")] 323

def k7m0 : Method := { name := "<init>", desc := "()V", sig := { parameters := [], returnType := none }, accessFlags := 1, code := none }
def k7c1 : Code := { maxStack := 5, maxLocals := 2, code := jdk_42_method_3_code, exceptionTable := #[], attributes := #[] }
def k7m1 : Method := { name := "<init>", desc := "([C)V", sig := { parameters := [(.array .char)], returnType := none }, accessFlags := 1, code := some k7c1 }
def k7c2 : Code := { maxStack := 2, maxLocals := 3, code := jdk_42_method_66_code, exceptionTable := #[], attributes := #[] }
def k7m2 : Method := { name := "equals", desc := "(Ljava/lang/Object;)Z", sig := { parameters := [(.object "java/lang/Object")], returnType := some .boolean }, accessFlags := 1, code := some k7c2 }
def k7c3 : Code := { maxStack := 4, maxLocals := 6, code := jdk_42_method_149_code, exceptionTable := #[], attributes := #[] }
def k7m3 : Method := { name := "<init>", desc := "([CIILjava/lang/Void;)V", sig := { parameters := [(.array .char), .int, .int, (.object "java/lang/Void")], returnType := none }, accessFlags := 2, code := some k7c3 }
/-- java/lang/String -/
def k7 : Class := { plain "java/lang/String" (some 0) with
  accessFlags := 49
  interfaces := #[2, 3, 4, 5, 6]
  cf := some (fileOf pool7 10 #[.nestMembers #[1103]] #[{ accessFlags := 1, nameIndex := 5, descriptorIndex := 6, attributes := #[] }, { accessFlags := 1, nameIndex := 5, descriptorIndex := 1010, attributes := #[] }, { accessFlags := 1, nameIndex := 543, descriptorIndex := 573, attributes := #[] }, { accessFlags := 2, nameIndex := 5, descriptorIndex := 29, attributes := #[] }] 49 2 #[1106, 1108, 575, 1110, 1112] #[{ accessFlags := 18, nameIndex := 13, descriptorIndex := 14, attributes := #[] }, { accessFlags := 18, nameIndex := 17, descriptorIndex := 18, attributes := #[] }, { accessFlags := 2, nameIndex := 21, descriptorIndex := 22, attributes := #[] }, { accessFlags := 2, nameIndex := 25, descriptorIndex := 26, attributes := #[] }, { accessFlags := 26, nameIndex := 1116, descriptorIndex := 1117, attributes := #[] }, { accessFlags := 24, nameIndex := 40, descriptorIndex := 26, attributes := #[] }, { accessFlags := 26, nameIndex := 1101, descriptorIndex := 1102, attributes := #[] }, { accessFlags := 26, nameIndex := 1121, descriptorIndex := 1122, attributes := #[] }, { accessFlags := 25, nameIndex := 599, descriptorIndex := 600, attributes := #[] }, { accessFlags := 24, nameIndex := 1125, descriptorIndex := 18, attributes := #[] }, { accessFlags := 24, nameIndex := 1127, descriptorIndex := 18, attributes := #[] }])
  fields := #[{ name := "value", type := (.array .byte), accessFlags := 18, slot := 0, constantValue := 0 }, { name := "coder", type := .byte, accessFlags := 18, slot := 1, constantValue := 0 }, { name := "hash", type := .int, accessFlags := 2, slot := 2, constantValue := 0 }, { name := "hashIsZero", type := .boolean, accessFlags := 2, slot := 3, constantValue := 0 }, { name := "serialVersionUID", type := .long, accessFlags := 26, slot := 0, constantValue := 0 }, { name := "COMPACT_STRINGS", type := .boolean, accessFlags := 24, slot := 1, constantValue := 0 }, { name := "serialPersistentFields", type := (.array (.object "java/io/ObjectStreamField")), accessFlags := 26, slot := 2, constantValue := 0 }, { name := "REPL", type := .char, accessFlags := 26, slot := 3, constantValue := 0 }, { name := "CASE_INSENSITIVE_ORDER", type := (.object "java/util/Comparator"), accessFlags := 25, slot := 4, constantValue := 0 }, { name := "LATIN1", type := .byte, accessFlags := 24, slot := 5, constantValue := 0 }, { name := "UTF16", type := .byte, accessFlags := 24, slot := 6, constantValue := 0 }]
  methods := #[k7m0, k7m1, k7m2, k7m3]
  instanceTypes := #[(.array .byte), .byte, .int, .boolean]
  staticTypes := #[.long, .boolean, (.array (.object "java/io/ObjectStreamField")), .char, (.object "java/util/Comparator"), .byte, .byte]
  resolved := Array.replicate 1451 none
  statics := some 0 }

def pool8 : Array CpInfo := pool [(2, .class_ 4), (1, u "java/lang/Object"), (0, u "<init>"), (0, u "()V"), (20, .methodref 28 29), (0, .class_ 30), (0, .nameAndType 31 32), (0, u "java/lang/String"), (0, u "equals"), (0, u "(Ljava/lang/Object;)Z"), (1, .class_ 36), (1, u "com/example/pincio/pincio/core/CanonicalLiterals"), (21, u "isSpecial"), (0, u "(Ljava/lang/String;)Z"), (12, u "FLOAT_DIGITS"), (0, u "Ljava/math/MathContext;"), (13, u "DOUBLE_DIGITS"), (108, u "FIVE"), (0, u "Ljava/math/BigInteger;"), (24, .string 223), (0, u "INF"), (0, .string 225), (0, u "-INF"), (0, .string 227), (0, u "NaN")] 149

def k8m0 : Method := { name := "<init>", desc := "()V", sig := { parameters := [], returnType := none }, accessFlags := 2, code := none }
def k8c1 : Code := { maxStack := 2, maxLocals := 1, code := prog_14_method_7_code, exceptionTable := #[], attributes := #[] }
def k8m1 : Method := { name := "isSpecial", desc := "(Ljava/lang/String;)Z", sig := { parameters := [(.object "java/lang/String")], returnType := some .boolean }, accessFlags := 8, code := some k8c1 }
/-- com/example/pincio/pincio/core/CanonicalLiterals -/
def k8 : Class := { plain "com/example/pincio/pincio/core/CanonicalLiterals" (some 0) with
  accessFlags := 48
  interfaces := #[]
  cf := some (fileOf pool8 34 #[] #[{ accessFlags := 2, nameIndex := 5, descriptorIndex := 6, attributes := #[] }, { accessFlags := 8, nameIndex := 58, descriptorIndex := 59, attributes := #[] }] 48 2 #[] #[{ accessFlags := 26, nameIndex := 196, descriptorIndex := 197, attributes := #[] }, { accessFlags := 26, nameIndex := 72, descriptorIndex := 73, attributes := #[] }, { accessFlags := 26, nameIndex := 87, descriptorIndex := 73, attributes := #[] }])
  fields := #[{ name := "FIVE", type := (.object "java/math/BigInteger"), accessFlags := 26, slot := 0, constantValue := 0 }, { name := "FLOAT_DIGITS", type := (.object "java/math/MathContext"), accessFlags := 26, slot := 1, constantValue := 0 }, { name := "DOUBLE_DIGITS", type := (.object "java/math/MathContext"), accessFlags := 26, slot := 2, constantValue := 0 }]
  methods := #[k8m0, k8m1]
  instanceTypes := #[]
  staticTypes := #[(.object "java/math/BigInteger"), (.object "java/math/MathContext"), (.object "java/math/MathContext")]
  resolved := Array.replicate 377 none
  statics := none }

def pool9 : Array CpInfo := pool [(4, .class_ 6), (1, u "java/lang/Object"), (0, u "<init>"), (0, u "()V"), (5, .class_ 16), (1, u "java/lang/StringLatin1"), (104, u "$assertionsDisabled"), (0, u "Z"), (98, .class_ 223), (1, u "java/lang/StringLatin1$LinesSpliterator"), (57, u "equals"), (0, u "([B[B)Z"), (107, .class_ 391), (0, u "java/lang/StringLatin1$CharsSpliterator")] 3

def k9m0 : Method := { name := "<init>", desc := "()V", sig := { parameters := [], returnType := none }, accessFlags := 0, code := none }
def k9c1 : Code := { maxStack := 3, maxLocals := 3, code := jdk_43_method_13_code, exceptionTable := #[], attributes := #[] }
def k9m1 : Method := { name := "equals", desc := "([B[B)Z", sig := { parameters := [(.array .byte), (.array .byte)], returnType := some .boolean }, accessFlags := 9, code := some k9c1 }
/-- java/lang/StringLatin1 -/
def k9 : Class := { plain "java/lang/StringLatin1" (some 0) with
  accessFlags := 48
  interfaces := #[]
  cf := some (fileOf pool9 14 #[.nestMembers #[390, 221]] #[{ accessFlags := 0, nameIndex := 7, descriptorIndex := 8, attributes := #[] }, { accessFlags := 9, nameIndex := 281, descriptorIndex := 282, attributes := #[] }] 48 4 #[] #[{ accessFlags := 4120, nameIndex := 121, descriptorIndex := 122, attributes := #[] }])
  fields := #[{ name := "$assertionsDisabled", type := .boolean, accessFlags := 4120, slot := 0, constantValue := 0 }]
  methods := #[k9m0, k9m1]
  instanceTypes := #[]
  staticTypes := #[.boolean]
  resolved := Array.replicate 395 none
  statics := none }

def pool10 : Array CpInfo := pool [(6, .class_ 8), (1, u "java/lang/Object"), (0, u "<init>"), (0, u "()V"), (0, .methodref 12 13), (0, .class_ 14), (0, .nameAndType 15 16), (0, u "java/lang/StringUTF16"), (0, u "newBytesLength"), (0, u "(I)I"), (3, .integer 1073741823), (23, .fieldref 12 45), (0, .nameAndType 46 47), (0, u "$assertionsDisabled"), (0, u "Z"), (11, .fieldref 12 60), (0, .nameAndType 61 62), (0, u "HI_BYTE_SHIFT"), (0, u "I"), (0, .fieldref 12 64), (0, .nameAndType 65 62), (0, u "LO_BYTE_SHIFT"), (5, .methodref 12 72), (0, .nameAndType 73 74), (0, u "getChar"), (0, u "([BI)C"), (32, .methodref 12 108), (0, .nameAndType 109 110), (0, u "newBytesFor"), (0, u "(I)[B"), (0, .methodref 12 112), (0, .nameAndType 113 114), (0, u "putChar"), (0, u "([BII)V"), (0, .methodref 12 116), (0, .nameAndType 117 118), (0, u "compress"), (0, u "([CI[BII)I"), (0, .methodref 12 120), (0, .nameAndType 121 122), (0, u "toBytes"), (0, u "([CII)[B"), (138, u "coderFromArrayLen"), (0, u "([BI)B"), (106, .class_ 371), (1, u "java/lang/StringUTF16$LinesSpliterator"), (58, u "MAX_LENGTH"), (196, .class_ 628), (0, u "java/lang/StringUTF16$CodePointsSpliterator"), (0, .class_ 630), (0, u "java/lang/StringUTF16$CharsSpliterator")] 4

def k10m0 : Method := { name := "<init>", desc := "()V", sig := { parameters := [], returnType := none }, accessFlags := 0, code := none }
def k10c1 : Code := { maxStack := 1, maxLocals := 1, code := jdk_52_method_2_code, exceptionTable := #[], attributes := #[] }
def k10m1 : Method := { name := "newBytesFor", desc := "(I)[B", sig := { parameters := [.int], returnType := some (.array .byte) }, accessFlags := 9, code := some k10c1 }
def k10c2 : Code := { maxStack := 4, maxLocals := 1, code := jdk_52_method_3_code, exceptionTable := #[], attributes := #[] }
def k10m2 : Method := { name := "newBytesLength", desc := "(I)I", sig := { parameters := [.int], returnType := some .int }, accessFlags := 9, code := some k10c2 }
def k10c3 : Code := { maxStack := 4, maxLocals := 3, code := jdk_52_method_4_code, exceptionTable := #[], attributes := #[] }
def k10m3 : Method := { name := "putChar", desc := "([BII)V", sig := { parameters := [(.array .byte), .int, .int], returnType := none }, accessFlags := 8, code := some k10c3 }
def k10c4 : Code := { maxStack := 3, maxLocals := 2, code := jdk_52_method_5_code, exceptionTable := #[], attributes := #[] }
def k10m4 : Method := { name := "getChar", desc := "([BI)C", sig := { parameters := [(.array .byte), .int], returnType := some .char }, accessFlags := 8, code := some k10c4 }
def k10c5 : Code := { maxStack := 4, maxLocals := 5, code := jdk_52_method_14_code, exceptionTable := #[], attributes := #[] }
def k10m5 : Method := { name := "toBytes", desc := "([CII)[B", sig := { parameters := [(.array .char), .int, .int], returnType := some (.array .byte) }, accessFlags := 9, code := some k10c5 }
def k10c6 : Code := { maxStack := 2, maxLocals := 2, code := jdk_52_method_15_code, exceptionTable := #[], attributes := #[] }
def k10m6 : Method := { name := "coderFromArrayLen", desc := "([BI)B", sig := { parameters := [(.array .byte), .int], returnType := some .byte }, accessFlags := 8, code := some k10c6 }
def k10c7 : Code := { maxStack := 5, maxLocals := 6, code := jdk_52_method_16_code, exceptionTable := #[], attributes := #[] }
def k10m7 : Method := { name := "compress", desc := "([CII)[B", sig := { parameters := [(.array .char), .int, .int], returnType := some (.array .byte) }, accessFlags := 9, code := some k10c7 }
def k10c8 : Code := { maxStack := 3, maxLocals := 7, code := jdk_52_method_21_code, exceptionTable := #[], attributes := #[] }
def k10m8 : Method := { name := "compress", desc := "([CI[BII)I", sig := { parameters := [(.array .char), .int, (.array .byte), .int, .int], returnType := some .int }, accessFlags := 9, code := some k10c8 }
/-- java/lang/StringUTF16 -/
def k10 : Class := { plain "java/lang/StringUTF16" (some 0) with
  accessFlags := 48
  interfaces := #[]
  cf := some (fileOf pool10 12 #[.nestMembers #[627, 629, 369]] #[{ accessFlags := 0, nameIndex := 9, descriptorIndex := 10, attributes := #[] }, { accessFlags := 9, nameIndex := 109, descriptorIndex := 110, attributes := #[] }, { accessFlags := 9, nameIndex := 15, descriptorIndex := 16, attributes := #[] }, { accessFlags := 8, nameIndex := 113, descriptorIndex := 114, attributes := #[] }, { accessFlags := 8, nameIndex := 73, descriptorIndex := 74, attributes := #[] }, { accessFlags := 9, nameIndex := 121, descriptorIndex := 122, attributes := #[] }, { accessFlags := 8, nameIndex := 261, descriptorIndex := 262, attributes := #[] }, { accessFlags := 9, nameIndex := 117, descriptorIndex := 122, attributes := #[] }, { accessFlags := 9, nameIndex := 117, descriptorIndex := 118, attributes := #[] }] 48 6 #[] #[{ accessFlags := 26, nameIndex := 61, descriptorIndex := 62, attributes := #[] }, { accessFlags := 26, nameIndex := 65, descriptorIndex := 62, attributes := #[] }, { accessFlags := 24, nameIndex := 430, descriptorIndex := 62, attributes := #[] }, { accessFlags := 4120, nameIndex := 46, descriptorIndex := 47, attributes := #[] }])
  fields := #[{ name := "HI_BYTE_SHIFT", type := .int, accessFlags := 26, slot := 0, constantValue := 0 }, { name := "LO_BYTE_SHIFT", type := .int, accessFlags := 26, slot := 1, constantValue := 0 }, { name := "MAX_LENGTH", type := .int, accessFlags := 24, slot := 2, constantValue := 0 }, { name := "$assertionsDisabled", type := .boolean, accessFlags := 4120, slot := 3, constantValue := 0 }]
  methods := #[k10m0, k10m1, k10m2, k10m3, k10m4, k10m5, k10m6, k10m7, k10m8]
  instanceTypes := #[]
  staticTypes := #[.int, .int, .int, .boolean]
  resolved := Array.replicate 635 none
  statics := some 1 }

def pool11 : Array CpInfo := pool [(2, .class_ 4), (1, u "java/lang/Object"), (0, u "<init>"), (0, u "()V"), (17, .class_ 26), (1, u "jdk/internal/util/Preconditions"), (28, .class_ 56), (0, u "jdk/internal/util/Preconditions$4"), (57, .class_ 115), (0, u "jdk/internal/util/Preconditions$1"), (7, u "SIOOBE_FORMATTER"), (0, u "Ljava/util/function/BiFunction;"), (0, .class_ 126), (0, u "jdk/internal/util/Preconditions$2"), (3, u "AIOOBE_FORMATTER"), (0, .class_ 132), (0, u "jdk/internal/util/Preconditions$3"), (3, u "IOOBE_FORMATTER")] 57

def k11m0 : Method := { name := "<init>", desc := "()V", sig := { parameters := [], returnType := none }, accessFlags := 1, code := none }
/-- jdk/internal/util/Preconditions -/
def k11 : Class := { plain "jdk/internal/util/Preconditions" (some 0) with
  accessFlags := 33
  interfaces := #[]
  cf := some (fileOf pool11 24 #[.nestMembers #[55, 131, 125, 114]] #[{ accessFlags := 1, nameIndex := 5, descriptorIndex := 6, attributes := #[] }] 33 2 #[] #[{ accessFlags := 25, nameIndex := 123, descriptorIndex := 124, attributes := #[] }, { accessFlags := 25, nameIndex := 130, descriptorIndex := 124, attributes := #[] }, { accessFlags := 25, nameIndex := 136, descriptorIndex := 124, attributes := #[] }])
  fields := #[{ name := "SIOOBE_FORMATTER", type := (.object "java/util/function/BiFunction"), accessFlags := 25, slot := 0, constantValue := 0 }, { name := "AIOOBE_FORMATTER", type := (.object "java/util/function/BiFunction"), accessFlags := 25, slot := 1, constantValue := 0 }, { name := "IOOBE_FORMATTER", type := (.object "java/util/function/BiFunction"), accessFlags := 25, slot := 2, constantValue := 0 }]
  methods := #[k11m0]
  instanceTypes := #[]
  staticTypes := #[(.object "java/util/function/BiFunction"), (.object "java/util/function/BiFunction"), (.object "java/util/function/BiFunction")]
  resolved := Array.replicate 194 none
  statics := some 2 }

def pool12 : Array CpInfo := pool [(9, u "<init>"), (6, .class_ 18), (1, u "java/lang/Object"), (0, u "()V"), (1, .class_ 23), (1, u "jdk/internal/util/ArraysSupport"), (0, u "LOG2_ARRAY_LONG_INDEX_SCALE"), (0, u "I"), (2, u "U"), (0, u "Ljdk/internal/misc/Unsafe;"), (8, u "BIG_ENDIAN"), (0, u "Z"), (8, u "LOG2_BYTE_BIT_SIZE"), (4, u "LOG2_ARRAY_INT_INDEX_SCALE"), (54, u "JLA"), (0, u "Ljdk/internal/access/JavaLangAccess;"), (11, u "LOG2_ARRAY_BOOLEAN_INDEX_SCALE"), (9, u "LOG2_ARRAY_BYTE_INDEX_SCALE"), (5, u "LOG2_ARRAY_CHAR_INDEX_SCALE"), (5, u "LOG2_ARRAY_SHORT_INDEX_SCALE"), (18, u "LOG2_ARRAY_FLOAT_INDEX_SCALE"), (24, u "LOG2_ARRAY_DOUBLE_INDEX_SCALE"), (89, u "T_BOOLEAN"), (2, u "T_CHAR"), (1, u "T_FLOAT"), (1, u "T_DOUBLE"), (1, u "T_BYTE"), (1, u "T_SHORT"), (1, u "T_INT"), (1, u "T_LONG"), (1, u "SOFT_MAX_ARRAY_LENGTH")] 83

def k12m0 : Method := { name := "<init>", desc := "()V", sig := { parameters := [], returnType := none }, accessFlags := 2, code := none }
/-- jdk/internal/util/ArraysSupport -/
def k12 : Class := { plain "jdk/internal/util/ArraysSupport" (some 0) with
  accessFlags := 33
  interfaces := #[]
  cf := some (fileOf pool12 21 #[] #[{ accessFlags := 2, nameIndex := 9, descriptorIndex := 19, attributes := #[] }] 33 16 #[] #[{ accessFlags := 24, nameIndex := 28, descriptorIndex := 29, attributes := #[] }, { accessFlags := 26, nameIndex := 38, descriptorIndex := 39, attributes := #[] }, { accessFlags := 25, nameIndex := 121, descriptorIndex := 25, attributes := #[] }, { accessFlags := 25, nameIndex := 131, descriptorIndex := 25, attributes := #[] }, { accessFlags := 25, nameIndex := 137, descriptorIndex := 25, attributes := #[] }, { accessFlags := 25, nameIndex := 143, descriptorIndex := 25, attributes := #[] }, { accessFlags := 25, nameIndex := 53, descriptorIndex := 25, attributes := #[] }, { accessFlags := 25, nameIndex := 24, descriptorIndex := 25, attributes := #[] }, { accessFlags := 25, nameIndex := 162, descriptorIndex := 25, attributes := #[] }, { accessFlags := 25, nameIndex := 187, descriptorIndex := 25, attributes := #[] }, { accessFlags := 26, nameIndex := 48, descriptorIndex := 25, attributes := #[] }, { accessFlags := 25, nameIndex := 277, descriptorIndex := 25, attributes := #[] }, { accessFlags := 25, nameIndex := 280, descriptorIndex := 25, attributes := #[] }, { accessFlags := 25, nameIndex := 282, descriptorIndex := 25, attributes := #[] }, { accessFlags := 25, nameIndex := 284, descriptorIndex := 25, attributes := #[] }, { accessFlags := 25, nameIndex := 286, descriptorIndex := 25, attributes := #[] }, { accessFlags := 25, nameIndex := 288, descriptorIndex := 25, attributes := #[] }, { accessFlags := 25, nameIndex := 290, descriptorIndex := 25, attributes := #[] }, { accessFlags := 25, nameIndex := 292, descriptorIndex := 25, attributes := #[] }, { accessFlags := 26, nameIndex := 108, descriptorIndex := 109, attributes := #[] }, { accessFlags := 25, nameIndex := 294, descriptorIndex := 25, attributes := #[] }])
  fields := #[{ name := "U", type := (.object "jdk/internal/misc/Unsafe"), accessFlags := 24, slot := 0, constantValue := 0 }, { name := "BIG_ENDIAN", type := .boolean, accessFlags := 26, slot := 1, constantValue := 0 }, { name := "LOG2_ARRAY_BOOLEAN_INDEX_SCALE", type := .int, accessFlags := 25, slot := 2, constantValue := 0 }, { name := "LOG2_ARRAY_BYTE_INDEX_SCALE", type := .int, accessFlags := 25, slot := 3, constantValue := 0 }, { name := "LOG2_ARRAY_CHAR_INDEX_SCALE", type := .int, accessFlags := 25, slot := 4, constantValue := 0 }, { name := "LOG2_ARRAY_SHORT_INDEX_SCALE", type := .int, accessFlags := 25, slot := 5, constantValue := 0 }, { name := "LOG2_ARRAY_INT_INDEX_SCALE", type := .int, accessFlags := 25, slot := 6, constantValue := 0 }, { name := "LOG2_ARRAY_LONG_INDEX_SCALE", type := .int, accessFlags := 25, slot := 7, constantValue := 0 }, { name := "LOG2_ARRAY_FLOAT_INDEX_SCALE", type := .int, accessFlags := 25, slot := 8, constantValue := 0 }, { name := "LOG2_ARRAY_DOUBLE_INDEX_SCALE", type := .int, accessFlags := 25, slot := 9, constantValue := 0 }, { name := "LOG2_BYTE_BIT_SIZE", type := .int, accessFlags := 26, slot := 10, constantValue := 0 }, { name := "T_BOOLEAN", type := .int, accessFlags := 25, slot := 11, constantValue := 0 }, { name := "T_CHAR", type := .int, accessFlags := 25, slot := 12, constantValue := 0 }, { name := "T_FLOAT", type := .int, accessFlags := 25, slot := 13, constantValue := 0 }, { name := "T_DOUBLE", type := .int, accessFlags := 25, slot := 14, constantValue := 0 }, { name := "T_BYTE", type := .int, accessFlags := 25, slot := 15, constantValue := 0 }, { name := "T_SHORT", type := .int, accessFlags := 25, slot := 16, constantValue := 0 }, { name := "T_INT", type := .int, accessFlags := 25, slot := 17, constantValue := 0 }, { name := "T_LONG", type := .int, accessFlags := 25, slot := 18, constantValue := 0 }, { name := "JLA", type := (.object "jdk/internal/access/JavaLangAccess"), accessFlags := 26, slot := 19, constantValue := 0 }, { name := "SOFT_MAX_ARRAY_LENGTH", type := .int, accessFlags := 25, slot := 20, constantValue := 0 }]
  methods := #[k12m0]
  instanceTypes := #[]
  staticTypes := #[(.object "jdk/internal/misc/Unsafe"), .boolean, .int, .int, .int, .int, .int, .int, .int, .int, .int, .int, .int, .int, .int, .int, .int, .int, .int, (.object "jdk/internal/access/JavaLangAccess"), .int]
  resolved := Array.replicate 378 none
  statics := none }

def pool13 : Array CpInfo := pool [(1, u "java/lang/Cloneable"), (0, .class_ 1), (0, u "java/lang/Object"), (0, .class_ 3)] 3

/-- java/lang/Cloneable -/
def k13 : Class := { plain "java/lang/Cloneable" (some 0) with
  accessFlags := 1537
  interfaces := #[]
  cf := some (fileOf pool13 2 #[] #[] 1537 4 #[] #[])
  fields := #[]
  methods := #[]
  instanceTypes := #[]
  staticTypes := #[]
  resolved := Array.replicate 8 none
  statics := none }

/-- the primitive byte -/
def k14 : Class := { plain "byte" none with kind := .primitive 'B', accessFlags := 0x411 }
/-- [B -/
def k15 : Class := { plain "[B" (some 0) with kind := .array 14 .byte, interfaces := #[13, 2], accessFlags := 1041 }

/-- the primitive char -/
def k16 : Class := { plain "char" none with kind := .primitive 'C', accessFlags := 0x411 }
/-- [C -/
def k17 : Class := { plain "[C" (some 0) with kind := .array 16 .char, interfaces := #[13, 2], accessFlags := 1041 }

/-- the primitive int -/
def k18 : Class := { plain "int" none with kind := .primitive 'I', accessFlags := 0x411 }
/-- [I -/
def k19 : Class := { plain "[I" (some 0) with kind := .array 18 .int, interfaces := #[13, 2], accessFlags := 1041 }

def heap : Heap := #[{ cls := 7, slots := #[.long 0, .int 1, .null, .int 0, .null, .int 0, .int 0], vm := .statics 7 },
  { cls := 10, slots := #[.int 0, .int 8, .int 0, .int 1], vm := .statics 10 },
  { cls := 11, slots := #[.null, .null, .null], vm := .statics 11 }]
def classes : Array Class := #[k0, k1, k2, k3, k4, k5, k6, k7, k8, k9, k10, k11, k12, k13, k14, k15, k16, k17, k18, k19]
def interned : List (Array UInt16 × Addr) := []
def slotsUsed : Nat := 14
def theMethod : MethodId := ⟨1, 3⟩
def args0 : Array Value := #[.int 3, .int 5, .int 70000, .int 7, .int 8, .int 9]
def aboutOver (below : List Frame) : State where
  vm := { classes := classes, interned := interned.toArray }
  heap := heap
  slotsUsed := slotsUsed
  threads := #[{ frames := .invoking theMethod args0 :: below }]
def below0 : List Frame := [.native { method := ⟨0, 0⟩, args := #[] }]
def about1 : State := aboutOver below0
def p0 : Program := .bare "" "" ""
def e0 : Env := launch0.env 0 0 0
theorem w_frames : about1.frames = Frame.invoking theMethod args0 :: below0 := rfl
set_option maxRecDepth 65536 in
theorem w_args : argsFit about1.vm theMethod args0 = true := by decide +kernel
set_option maxRecDepth 65536 in
theorem w_heap : heapFits about1 = true := by decide +kernel
set_option maxRecDepth 65536 in
theorem w_runnable : about1.curStatus? = some .runnable := by decide +kernel
set_option maxRecDepth 65536 in
theorem w_alone : about1.alone = true := by decide +kernel
set_option maxRecDepth 65536 in
theorem w_named : about1.methodNamed? x = some theMethod := by decide +kernel
set_option maxRecDepth 65536 in
theorem w_hears : about1.hears theMethod below0 = true := by decide +kernel
set_option maxRecDepth 65536 in
theorem w_ripe : about1.ripe theMethod args0 below0 = true := by decide +kernel
theorem w_running : about1.status = .running := rfl
set_option maxRecDepth 65536 in
theorem w_room : about1.hasRoom e0.platform room_1 = true :=
  launch0.hasRoom_least _ room_1 (by decide +kernel) (by decide +kernel) (by decide +kernel) (by decide +kernel) (by decide +kernel) (by decide +kernel)
theorem allAtoms_all (ts : List Jvm.Cond) (a : Array Jvm.Value) (st : Jvm.State) : (allAtoms ts).before a st = ts.all (fun c => c.before a st) := by
  induction ts with
  | nil => rfl
  | cons c t ih =>
    show (Jvm.Cond.and c (allAtoms t)).before a st = _
    rw [Jvm.Cond.before_and, ih, List.all_cons]
def words1 : List Jvm.Cond := Jvm.Cond.code x code maxLocals ret :: tables_1
/-- a 'code' word, met by the world's own term for the bytes: nothing is compared byte by byte -/
theorem code_word {y : MethodName} {bytes : ByteArray} {mx : Nat} {rt : Option FieldType} {a : Array Value} {s : State} {m : MethodId} {meth : Method} {c : Code} (h1 : s.methodNamed? y = some m) (h2 : s.vm.method? m = some meth) (h3 : meth.code = some c) (h4 : c.code = bytes)
    (h5 : (c.maxLocals == mx && c.exceptionTable.isEmpty && decide (c.maxStack ≤ mostOperands) && decide (meth.sig.returnType = rt) && !meth.locks && decide (parseMethodDescriptor y.desc = some meth.sig)) = true) : (Jvm.Cond.code y bytes mx rt).before a s = true := by
  simp only [Bool.and_eq_true, beq_iff_eq, Bool.not_eq_true', decide_eq_true_eq] at h5
  obtain ⟨⟨⟨⟨⟨g1, g2⟩, g3⟩, g4⟩, g5⟩, g6⟩ := h5
  simp [Cond.before, Cond.holds, Cond.value, h1, h2, h3, h4, g1, g2, g3, g4, g5, g6]
def isCode : Jvm.Cond → Bool
  | .code _ _ _ _ => true
  | _ => false
theorem all_split {L : List Jvm.Cond} {P : Jvm.Cond → Bool} (h1 : L.all (fun c => isCode c || P c) = true) (h2 : ∀ c ∈ L.filter isCode, P c = true) : L.all P = true := by
  refine List.all_eq_true.mpr fun c hc => ?_
  have h := List.all_eq_true.mp h1 c hc
  rcases Bool.eq_false_or_eq_true (isCode c) with hi | hi
  · exact h2 c (List.mem_filter.mpr ⟨hc, hi⟩)
  · simpa [hi] using h
set_option maxRecDepth 65536 in
theorem w_c0 : (Jvm.Cond.code x code maxLocals ret).before args0 about1 = true := code_word (m := ⟨1, 3⟩) (meth := k1m3) (c := k1c3) (by decide +kernel) rfl rfl rfl (by decide +kernel)
set_option maxRecDepth 65536 in
theorem w_c1 : (Jvm.Cond.code ({ cls := "com/example/pincio/pincio/core/CanonicalLiteralsIsSpecialPinLaw", name := "ch", desc := "(I)C" } : Jvm.MethodName) method_2_code (2 : Nat) (Option.some Jvm.ClassFile.FieldType.char)).before args0 about1 = true := code_word (m := ⟨1, 1⟩) (meth := k1m1) (c := k1c1) (by decide +kernel) rfl rfl rfl (by decide +kernel)
set_option maxRecDepth 65536 in
theorem w_c2 : (Jvm.Cond.code ({ cls := "com/example/pincio/pincio/core/CanonicalLiteralsIsSpecialPinLaw", name := "make", desc := "(ICCCCC)Ljava/lang/String;" } : Jvm.MethodName) method_3_code (6 : Nat) (Option.some (Jvm.ClassFile.FieldType.object "java/lang/String"))).before args0 about1 = true := code_word (m := ⟨1, 2⟩) (meth := k1m2) (c := k1c2) (by decide +kernel) rfl rfl rfl (by decide +kernel)
set_option maxRecDepth 65536 in
theorem w_c3 : (Jvm.Cond.code ({ cls := "java/lang/String", name := "<init>", desc := "([C)V" } : Jvm.MethodName) jdk_42_method_3_code (2 : Nat) (Option.none : Option Jvm.ClassFile.FieldType)).before args0 about1 = true := code_word (m := ⟨7, 1⟩) (meth := k7m1) (c := k7c1) (by decide +kernel) rfl rfl rfl (by decide +kernel)
set_option maxRecDepth 65536 in
theorem w_c4 : (Jvm.Cond.code ({ cls := "java/lang/String", name := "<init>", desc := "([CIILjava/lang/Void;)V" } : Jvm.MethodName) jdk_42_method_149_code (6 : Nat) (Option.none : Option Jvm.ClassFile.FieldType)).before args0 about1 = true := code_word (m := ⟨7, 3⟩) (meth := k7m3) (c := k7c3) (by decide +kernel) rfl rfl rfl (by decide +kernel)
set_option maxRecDepth 65536 in
theorem w_c5 : (Jvm.Cond.code ({ cls := "java/lang/Object", name := "<init>", desc := "()V" } : Jvm.MethodName) object_method_1_code (1 : Nat) (Option.none : Option Jvm.ClassFile.FieldType)).before args0 about1 = true := code_word (m := ⟨0, 0⟩) (meth := k0m0) (c := k0c0) (by decide +kernel) rfl rfl rfl (by decide +kernel)
set_option maxRecDepth 65536 in
theorem w_c6 : (Jvm.Cond.code ({ cls := "com/example/pincio/pincio/core/CanonicalLiterals", name := "isSpecial", desc := "(Ljava/lang/String;)Z" } : Jvm.MethodName) prog_14_method_7_code (1 : Nat) (Option.some Jvm.ClassFile.FieldType.boolean)).before args0 about1 = true := code_word (m := ⟨8, 1⟩) (meth := k8m1) (c := k8c1) (by decide +kernel) rfl rfl rfl (by decide +kernel)
set_option maxRecDepth 65536 in
theorem w_c7 : (Jvm.Cond.code ({ cls := "java/lang/String", name := "equals", desc := "(Ljava/lang/Object;)Z" } : Jvm.MethodName) jdk_42_method_66_code (3 : Nat) (Option.some Jvm.ClassFile.FieldType.boolean)).before args0 about1 = true := code_word (m := ⟨7, 2⟩) (meth := k7m2) (c := k7c2) (by decide +kernel) rfl rfl rfl (by decide +kernel)
set_option maxRecDepth 65536 in
theorem w_c8 : (Jvm.Cond.code ({ cls := "java/lang/StringLatin1", name := "equals", desc := "([B[B)Z" } : Jvm.MethodName) jdk_43_method_13_code (3 : Nat) (Option.some Jvm.ClassFile.FieldType.boolean)).before args0 about1 = true := code_word (m := ⟨9, 1⟩) (meth := k9m1) (c := k9c1) (by decide +kernel) rfl rfl rfl (by decide +kernel)
set_option maxRecDepth 65536 in
theorem w_c9 : (Jvm.Cond.code ({ cls := "java/lang/StringUTF16", name := "compress", desc := "([CII)[B" } : Jvm.MethodName) jdk_52_method_16_code (6 : Nat) (Option.some (Jvm.ClassFile.FieldType.array Jvm.ClassFile.FieldType.byte))).before args0 about1 = true := code_word (m := ⟨10, 7⟩) (meth := k10m7) (c := k10c7) (by decide +kernel) rfl rfl rfl (by decide +kernel)
set_option maxRecDepth 65536 in
theorem w_c10 : (Jvm.Cond.code ({ cls := "java/lang/StringUTF16", name := "compress", desc := "([CI[BII)I" } : Jvm.MethodName) jdk_52_method_21_code (7 : Nat) (Option.some Jvm.ClassFile.FieldType.int)).before args0 about1 = true := code_word (m := ⟨10, 8⟩) (meth := k10m8) (c := k10c8) (by decide +kernel) rfl rfl rfl (by decide +kernel)
set_option maxRecDepth 65536 in
theorem w_c11 : (Jvm.Cond.code ({ cls := "java/lang/StringUTF16", name := "coderFromArrayLen", desc := "([BI)B" } : Jvm.MethodName) jdk_52_method_15_code (2 : Nat) (Option.some Jvm.ClassFile.FieldType.byte)).before args0 about1 = true := code_word (m := ⟨10, 6⟩) (meth := k10m6) (c := k10c6) (by decide +kernel) rfl rfl rfl (by decide +kernel)
set_option maxRecDepth 65536 in
theorem w_c12 : (Jvm.Cond.code ({ cls := "java/lang/StringUTF16", name := "toBytes", desc := "([CII)[B" } : Jvm.MethodName) jdk_52_method_14_code (5 : Nat) (Option.some (Jvm.ClassFile.FieldType.array Jvm.ClassFile.FieldType.byte))).before args0 about1 = true := code_word (m := ⟨10, 5⟩) (meth := k10m5) (c := k10c5) (by decide +kernel) rfl rfl rfl (by decide +kernel)
set_option maxRecDepth 65536 in
theorem w_c13 : (Jvm.Cond.code ({ cls := "java/lang/StringUTF16", name := "newBytesFor", desc := "(I)[B" } : Jvm.MethodName) jdk_52_method_2_code (1 : Nat) (Option.some (Jvm.ClassFile.FieldType.array Jvm.ClassFile.FieldType.byte))).before args0 about1 = true := code_word (m := ⟨10, 1⟩) (meth := k10m1) (c := k10c1) (by decide +kernel) rfl rfl rfl (by decide +kernel)
set_option maxRecDepth 65536 in
theorem w_c14 : (Jvm.Cond.code ({ cls := "java/lang/StringUTF16", name := "newBytesLength", desc := "(I)I" } : Jvm.MethodName) jdk_52_method_3_code (1 : Nat) (Option.some Jvm.ClassFile.FieldType.int)).before args0 about1 = true := code_word (m := ⟨10, 2⟩) (meth := k10m2) (c := k10c2) (by decide +kernel) rfl rfl rfl (by decide +kernel)
set_option maxRecDepth 65536 in
theorem w_c15 : (Jvm.Cond.code ({ cls := "java/lang/StringUTF16", name := "putChar", desc := "([BII)V" } : Jvm.MethodName) jdk_52_method_4_code (3 : Nat) (Option.none : Option Jvm.ClassFile.FieldType)).before args0 about1 = true := code_word (m := ⟨10, 3⟩) (meth := k10m3) (c := k10c3) (by decide +kernel) rfl rfl rfl (by decide +kernel)
set_option maxRecDepth 65536 in
theorem w_c16 : (Jvm.Cond.code ({ cls := "java/lang/StringUTF16", name := "getChar", desc := "([BI)C" } : Jvm.MethodName) jdk_52_method_5_code (2 : Nat) (Option.some Jvm.ClassFile.FieldType.char)).before args0 about1 = true := code_word (m := ⟨10, 4⟩) (meth := k10m4) (c := k10c4) (by decide +kernel) rfl rfl rfl (by decide +kernel)
def codes1 : List Jvm.Cond := [Jvm.Cond.code x code maxLocals ret, Jvm.Cond.code ({ cls := "com/example/pincio/pincio/core/CanonicalLiteralsIsSpecialPinLaw", name := "ch", desc := "(I)C" } : Jvm.MethodName) method_2_code (2 : Nat) (Option.some Jvm.ClassFile.FieldType.char), Jvm.Cond.code ({ cls := "com/example/pincio/pincio/core/CanonicalLiteralsIsSpecialPinLaw", name := "make", desc := "(ICCCCC)Ljava/lang/String;" } : Jvm.MethodName) method_3_code (6 : Nat) (Option.some (Jvm.ClassFile.FieldType.object "java/lang/String")), Jvm.Cond.code ({ cls := "java/lang/String", name := "<init>", desc := "([C)V" } : Jvm.MethodName) jdk_42_method_3_code (2 : Nat) (Option.none : Option Jvm.ClassFile.FieldType), Jvm.Cond.code ({ cls := "java/lang/String", name := "<init>", desc := "([CIILjava/lang/Void;)V" } : Jvm.MethodName) jdk_42_method_149_code (6 : Nat) (Option.none : Option Jvm.ClassFile.FieldType), Jvm.Cond.code ({ cls := "java/lang/Object", name := "<init>", desc := "()V" } : Jvm.MethodName) object_method_1_code (1 : Nat) (Option.none : Option Jvm.ClassFile.FieldType), Jvm.Cond.code ({ cls := "com/example/pincio/pincio/core/CanonicalLiterals", name := "isSpecial", desc := "(Ljava/lang/String;)Z" } : Jvm.MethodName) prog_14_method_7_code (1 : Nat) (Option.some Jvm.ClassFile.FieldType.boolean), Jvm.Cond.code ({ cls := "java/lang/String", name := "equals", desc := "(Ljava/lang/Object;)Z" } : Jvm.MethodName) jdk_42_method_66_code (3 : Nat) (Option.some Jvm.ClassFile.FieldType.boolean), Jvm.Cond.code ({ cls := "java/lang/StringLatin1", name := "equals", desc := "([B[B)Z" } : Jvm.MethodName) jdk_43_method_13_code (3 : Nat) (Option.some Jvm.ClassFile.FieldType.boolean), Jvm.Cond.code ({ cls := "java/lang/StringUTF16", name := "compress", desc := "([CII)[B" } : Jvm.MethodName) jdk_52_method_16_code (6 : Nat) (Option.some (Jvm.ClassFile.FieldType.array Jvm.ClassFile.FieldType.byte)), Jvm.Cond.code ({ cls := "java/lang/StringUTF16", name := "compress", desc := "([CI[BII)I" } : Jvm.MethodName) jdk_52_method_21_code (7 : Nat) (Option.some Jvm.ClassFile.FieldType.int), Jvm.Cond.code ({ cls := "java/lang/StringUTF16", name := "coderFromArrayLen", desc := "([BI)B" } : Jvm.MethodName) jdk_52_method_15_code (2 : Nat) (Option.some Jvm.ClassFile.FieldType.byte), Jvm.Cond.code ({ cls := "java/lang/StringUTF16", name := "toBytes", desc := "([CII)[B" } : Jvm.MethodName) jdk_52_method_14_code (5 : Nat) (Option.some (Jvm.ClassFile.FieldType.array Jvm.ClassFile.FieldType.byte)), Jvm.Cond.code ({ cls := "java/lang/StringUTF16", name := "newBytesFor", desc := "(I)[B" } : Jvm.MethodName) jdk_52_method_2_code (1 : Nat) (Option.some (Jvm.ClassFile.FieldType.array Jvm.ClassFile.FieldType.byte)), Jvm.Cond.code ({ cls := "java/lang/StringUTF16", name := "newBytesLength", desc := "(I)I" } : Jvm.MethodName) jdk_52_method_3_code (1 : Nat) (Option.some Jvm.ClassFile.FieldType.int), Jvm.Cond.code ({ cls := "java/lang/StringUTF16", name := "putChar", desc := "([BII)V" } : Jvm.MethodName) jdk_52_method_4_code (3 : Nat) (Option.none : Option Jvm.ClassFile.FieldType), Jvm.Cond.code ({ cls := "java/lang/StringUTF16", name := "getChar", desc := "([BI)C" } : Jvm.MethodName) jdk_52_method_5_code (2 : Nat) (Option.some Jvm.ClassFile.FieldType.char)]
set_option maxRecDepth 65536 in
theorem codes_eq : words1.filter isCode = codes1 := rfl
theorem w_codes : ∀ c ∈ words1.filter isCode, c.before args0 about1 = true := by
  rw [codes_eq]
  intro c hc
  simp only [codes1, List.mem_cons, List.not_mem_nil, or_false] at hc
  rcases hc with rfl | rfl | rfl | rfl | rfl | rfl | rfl | rfl | rfl | rfl | rfl | rfl | rfl | rfl | rfl | rfl | rfl
  · exact w_c0
  · exact w_c1
  · exact w_c2
  · exact w_c3
  · exact w_c4
  · exact w_c5
  · exact w_c6
  · exact w_c7
  · exact w_c8
  · exact w_c9
  · exact w_c10
  · exact w_c11
  · exact w_c12
  · exact w_c13
  · exact w_c14
  · exact w_c15
  · exact w_c16
set_option maxRecDepth 65536 in
theorem w_t1 : (words1.take 24).all (fun c => isCode c || c.before args0 about1) = true := by decide +kernel
set_option maxRecDepth 65536 in
theorem w_t2 : ((words1.drop 24).take 24).all (fun c => isCode c || c.before args0 about1) = true := by decide +kernel
set_option maxRecDepth 65536 in
theorem w_t3 : (((words1.drop 24).drop 24).take 24).all (fun c => isCode c || c.before args0 about1) = true := by decide +kernel
set_option maxRecDepth 65536 in
theorem w_t4 : (((words1.drop 24).drop 24).drop 24).all (fun c => isCode c || c.before args0 about1) = true := by decide +kernel
theorem w_tables : (allAtoms (Jvm.Cond.code x code maxLocals ret :: tables_1)).before args0 about1 = true := by
  rw [allAtoms_all]
  show words1.all (fun c => c.before args0 about1) = true
  refine all_split ?_ w_codes
  rw [← List.take_append_drop 24 words1, List.all_append, w_t1, ← List.take_append_drop 24 (words1.drop 24), List.all_append, w_t2, ← List.take_append_drop 24 ((words1.drop 24).drop 24), List.all_append, w_t3, w_t4]
  rfl
set_option maxRecDepth 65536 in
theorem w_rest : rest_1_c.before args0 about1 = true := by decide +kernel
set_option maxRecDepth 65536 in
theorem w_case : (Jvm.Cond.and given_1 narrow_1).before args0 about1 = true := by decide +kernel
set_option maxRecDepth 65536 in
theorem w_consts : constsHeld consts_1 about1 := Jvm.Lit.constsHeldB_iff.mp (by decide +kernel)
theorem w_applies : (headSpec (Jvm.Cond.code x code maxLocals ret :: tables_1) room_1).applies x e0.platform about1 = true :=
  (Spec.applies_iff w_frames).mpr ⟨w_running, w_runnable, w_alone, w_named, w_hears, w_ripe, w_room, w_tables⟩
theorem atStart : AtStart classFile x code maxLocals ret World_1 tables_1 room_1 Calls_1 rest_1 Pre_1 launch0 p0 e0 about1 theMethod args0 below0 :=
  ⟨lists_1, trivial, launch0.admits_env _ _ _, launch0.least_env, fairChoices_fair.cas, fairChoices_fair.clock, w_frames, w_args, w_heap, w_applies, ⟨w_consts, trivial⟩, w_rest, w_case⟩
end start1
theorem witness_1 : WitnessClaimed_1 := ⟨start1.p0, start1.e0, start1.about1, start1.theMethod, start1.args0, start1.below0, start1.atStart⟩
end Jvm.Pilot.@@N@@
