import JvmDerived
import JvmDerived.Pilot.@@N@@Statement
import JvmDerived.Pilot.@@N@@Code
set_option linter.unusedVariables false
set_option linter.unusedSimpArgs false
namespace Jvm.Pilot.@@N@@
open Jvm Jvm.ClassFile Sem Op Lib Jvm.Free Jvm.Stand Jvm.LawKit Jvm.RoadKit Bundle Jvm.Pilot.@@N@@.Jvm.D
section OwnKit
variable {p : Program} {l : Launch} {e : Env} {R : Room} {s : State} {m : MethodId} {args : Array Value} {below : List Frame} {meth : Method} {c : Code} {T : State} {locs : List Loc} {cells slots : Nat} {Z : State} {a0 : Array Value} {h : Heap} {Φ : Outcome → State → Prop}
def own_ushr (x y : Int32) : Int32 := (x.toUInt32 >>> (y &&& 31).toUInt32).toInt32
def own_ushrL (x : Int64) (y : Int32) : Int64 := (x.toUInt64 >>> (y &&& 0x3f).toInt64.toUInt64).toInt64
def own_Ends (p : Program) (e : Env) (below : List Frame) (Φ : Outcome → State → Prop) (t : State) : Prop := ∃ s₂ o, Steps p.tables e below t s₂ ∧ s₂.status = .running ∧ Ended s₂ below o ∧ Φ o s₂
theorem own_via {t t' : State} (k : ∀ u, Steps p.tables e below t' u → Steps p.tables e below t u) (h : own_Ends p e below Φ t') : own_Ends p e below Φ t := by
  obtain ⟨s₂, o, h1, h2⟩ := h; exact ⟨s₂, o, k _ h1, h2⟩
theorem own_thru {t t' : State} (k : Steps p.tables e below t t') (h : own_Ends p e below Φ t') : own_Ends p e below Φ t := own_via (fun _ q => k.trans q) h
def own_Post (s : State) (Q : Option Value → Heap → List Loc → Prop) (kc ks : Nat) (o : Outcome) (U : State) : Prop := ∃ v L, o = .returned v ∧ Q v U.heap L ∧ FrameEnd s o U L kc ks
def own_Met (l : Launch) (y : MethodName) (bytes : ByteArray) (maxL : Nat) (ret : Option FieldType) (rm : Room) (Z : State) (as' : Array Value) (h0 : Heap) (Q : Option Value → Heap → List Loc → Prop) : Prop :=
  ∀ ws : List Jvm.Cond, MetFree l y (head1 (Jvm.Cond.code y bytes maxL ret :: ws) rm) (fun a U => a = as' ∧ Z.Warmed39 U.vm ∧ U.heap = h0) (fun _ _ _ _ _ => True) (fun _ U o U' => ∃ v L, o = .returned v ∧ Q v U'.heap L ∧ FrameEnd U o U' L rm.cells rm.slots)
theorem own_met {y : MethodName} {bytes : ByteArray} {maxL : Nat} {ret : Option FieldType} {rm : Room} {as' : Array Value} {h0 : Heap} {Q : Option Value → Heap → List Loc → Prop} (hp : plainFor y = true)
    (body : ∀ (p : Program) (e : Env) (s : State) (m : MethodId) (below : List Frame) (meth : Method) (c : Code) (T : State), p.tables.exec = Jvm.exec → c.code = bytes → c.maxLocals = maxL → Z.Warmed39 s.vm → s.vm.findClass y.cls = some m.cls → meth.name = y.name → meth.sig.returnType = ret → meth.locks = false →
      Stand p l e rm s m as' below meth c T [] 0 0 → T.heap = h0 → s.heap = h0 → own_Ends p e below (own_Post s Q rm.cells rm.slots) (T.setTop (entryFrame m as' maxL))) : own_Met l y bytes maxL ret rm Z as' h0 Q := by
  intro ws
  refine MetFree.of_bodySF hp hisR ?_
  intro p e s m args below meth c s₁ Bd hml0 hP hK
  obtain ⟨rfl, hZ, hh⟩ := hP
  exact body p e s m below meth c s₁ Bd.exec Bd.bytes hml0 hZ (findClass_of_methodNamed Bd.named) (name_of_methodNamed Bd.named Bd.method).1 Bd.returns (BodyLoose.notSynchronized Bd) (Stand.of_body Bd) (by rw [← hh, Bd.state]; rfl) hh
theorem own_oz {n0 : Nat} (O : Old Z n0 h) : n0 ≤ h.size := O.1 ▸ O.2.1
theorem own_entry {g g' : JFrame} (q : g = g') (h : own_Ends p e below Φ (T.setTop g')) : own_Ends p e below Φ (T.setTop g) := q ▸ h
theorem own_iloadN (X : Stand p l e R s m args below meth c T locs cells slots) (hx : p.tables.exec = Jvm.exec) {pc pc' : Nat} {Ls : Array Slot} {rest : List Value} {k : Fin 4} {v : Int32} (hd : decode c.code pc = .ok (.iload_n k, 1)) (hl : Ls[k.val]? = some (.val (.int v))) (hp : pc + 1 = pc') (h : own_Ends p e below Φ (T.setTop (mkF m pc' Ls (.int v :: rest)))) : own_Ends p e below Φ (T.setTop (mkF m pc Ls (rest))) := by
  subst hp; exact own_via (fun _ k => XS.iloadN X.here hx (g := mkF m pc Ls (rest)) rfl hd hl k) h
theorem own_lloadN (X : Stand p l e R s m args below meth c T locs cells slots) (hx : p.tables.exec = Jvm.exec) {pc pc' : Nat} {Ls : Array Slot} {rest : List Value} {k : Fin 4} {v : Int64} (hd : decode c.code pc = .ok (.lload_n k, 1)) (hl : Ls[k.val]? = some (.val (.long v))) (hp : pc + 1 = pc') (h : own_Ends p e below Φ (T.setTop (mkF m pc' Ls (.long v :: rest)))) : own_Ends p e below Φ (T.setTop (mkF m pc Ls (rest))) := by
  subst hp; exact own_via (fun _ k => XS.lloadN X.here hx (g := mkF m pc Ls (rest)) rfl hd hl k) h
theorem own_aloadN (X : Stand p l e R s m args below meth c T locs cells slots) (hx : p.tables.exec = Jvm.exec) {pc pc' : Nat} {Ls : Array Slot} {rest : List Value} {k : Fin 4} {v : Value} (hd : decode c.code pc = .ok (.aload_n k, 1)) (hl : Ls[k.val]? = some (.val v)) (hv : v.isRef = true) (hp : pc + 1 = pc') (h : own_Ends p e below Φ (T.setTop (mkF m pc' Ls (v :: rest)))) : own_Ends p e below Φ (T.setTop (mkF m pc Ls (rest))) := by
  subst hp; exact own_via (fun _ k => XS.aloadN X.here hx (g := mkF m pc Ls (rest)) rfl hd hl hv k) h
theorem own_istoreN (X : Stand p l e R s m args below meth c T locs cells slots) (hx : p.tables.exec = Jvm.exec) {pc pc' : Nat} {Ls : Array Slot} {rest : List Value} {k : Fin 4} {v : Int32} (Ls' : Array Slot) (hd : decode c.code pc = .ok (.istore_n k, 1)) (hl : storeLocals Ls k.val (.int v) = some Ls') (hp : pc + 1 = pc') (h : own_Ends p e below Φ (T.setTop (mkF m pc' Ls' (rest)))) : own_Ends p e below Φ (T.setTop (mkF m pc Ls (.int v :: rest))) := by
  subst hp; exact own_via (fun _ k => XS.istoreN X.here hx (g := mkF m pc Ls (.int v :: rest)) rfl hd rfl hl k) h
theorem own_lstoreN (X : Stand p l e R s m args below meth c T locs cells slots) (hx : p.tables.exec = Jvm.exec) {pc pc' : Nat} {Ls : Array Slot} {rest : List Value} {k : Fin 4} {v : Int64} (Ls' : Array Slot) (hd : decode c.code pc = .ok (.lstore_n k, 1)) (hl : storeLocals Ls k.val (.long v) = some Ls') (hp : pc + 1 = pc') (h : own_Ends p e below Φ (T.setTop (mkF m pc' Ls' (rest)))) : own_Ends p e below Φ (T.setTop (mkF m pc Ls (.long v :: rest))) := by
  subst hp; exact own_via (fun _ k => XS.lstoreN X.here hx (g := mkF m pc Ls (.long v :: rest)) rfl hd rfl hl k) h
theorem own_astoreN (X : Stand p l e R s m args below meth c T locs cells slots) (hx : p.tables.exec = Jvm.exec) {pc pc' : Nat} {Ls : Array Slot} {rest : List Value} {k : Fin 4} {v : Value} (Ls' : Array Slot) (hd : decode c.code pc = .ok (.astore_n k, 1)) (hv : v.isRef = true) (hl : storeLocals Ls k.val v = some Ls') (hp : pc + 1 = pc') (h : own_Ends p e below Φ (T.setTop (mkF m pc' Ls' (rest)))) : own_Ends p e below Φ (T.setTop (mkF m pc Ls (v :: rest))) := by
  subst hp; exact own_via (fun _ k => XS.astoreN X.here hx (g := mkF m pc Ls (v :: rest)) rfl hd rfl hv hl k) h
theorem own_iload (X : Stand p l e R s m args below meth c T locs cells slots) (hx : p.tables.exec = Jvm.exec) {pc pc' : Nat} {Ls : Array Slot} {rest : List Value} {k : Nat} {v : Int32} (hd : decode c.code pc = .ok (.iload k, 2)) (hl : Ls[k]? = some (.val (.int v))) (hp : pc + 2 = pc') (h : own_Ends p e below Φ (T.setTop (mkF m pc' Ls (.int v :: rest)))) : own_Ends p e below Φ (T.setTop (mkF m pc Ls (rest))) := by
  subst hp; exact own_via (fun _ k => XS.iload X.here hx (g := mkF m pc Ls (rest)) rfl hd hl k) h
theorem own_lload (X : Stand p l e R s m args below meth c T locs cells slots) (hx : p.tables.exec = Jvm.exec) {pc pc' : Nat} {Ls : Array Slot} {rest : List Value} {k : Nat} {v : Int64} (hd : decode c.code pc = .ok (.lload k, 2)) (hl : Ls[k]? = some (.val (.long v))) (hp : pc + 2 = pc') (h : own_Ends p e below Φ (T.setTop (mkF m pc' Ls (.long v :: rest)))) : own_Ends p e below Φ (T.setTop (mkF m pc Ls (rest))) := by
  subst hp; exact own_via (fun _ k => XS.lload X.here hx (g := mkF m pc Ls (rest)) rfl hd hl k) h
theorem own_aload (X : Stand p l e R s m args below meth c T locs cells slots) (hx : p.tables.exec = Jvm.exec) {pc pc' : Nat} {Ls : Array Slot} {rest : List Value} {k : Nat} {v : Value} (hd : decode c.code pc = .ok (.aload k, 2)) (hl : Ls[k]? = some (.val v)) (hv : v.isRef = true) (hp : pc + 2 = pc') (h : own_Ends p e below Φ (T.setTop (mkF m pc' Ls (v :: rest)))) : own_Ends p e below Φ (T.setTop (mkF m pc Ls (rest))) := by
  subst hp; exact own_via (fun _ k => XS.aload X.here hx (g := mkF m pc Ls (rest)) rfl hd hl hv k) h
theorem own_istore (X : Stand p l e R s m args below meth c T locs cells slots) (hx : p.tables.exec = Jvm.exec) {pc pc' : Nat} {Ls : Array Slot} {rest : List Value} {k : Nat} {v : Int32} (Ls' : Array Slot) (hd : decode c.code pc = .ok (.istore k, 2)) (hl : storeLocals Ls k (.int v) = some Ls') (hp : pc + 2 = pc') (h : own_Ends p e below Φ (T.setTop (mkF m pc' Ls' (rest)))) : own_Ends p e below Φ (T.setTop (mkF m pc Ls (.int v :: rest))) := by
  subst hp; exact own_via (fun _ k => XS.istore X.here hx (g := mkF m pc Ls (.int v :: rest)) rfl hd rfl hl k) h
theorem own_lstore (X : Stand p l e R s m args below meth c T locs cells slots) (hx : p.tables.exec = Jvm.exec) {pc pc' : Nat} {Ls : Array Slot} {rest : List Value} {k : Nat} {v : Int64} (Ls' : Array Slot) (hd : decode c.code pc = .ok (.lstore k, 2)) (hl : storeLocals Ls k (.long v) = some Ls') (hp : pc + 2 = pc') (h : own_Ends p e below Φ (T.setTop (mkF m pc' Ls' (rest)))) : own_Ends p e below Φ (T.setTop (mkF m pc Ls (.long v :: rest))) := by
  subst hp; exact own_via (fun _ k => XS.lstore X.here hx (g := mkF m pc Ls (.long v :: rest)) rfl hd rfl hl k) h
theorem own_astore (X : Stand p l e R s m args below meth c T locs cells slots) (hx : p.tables.exec = Jvm.exec) {pc pc' : Nat} {Ls : Array Slot} {rest : List Value} {k : Nat} {v : Value} (Ls' : Array Slot) (hd : decode c.code pc = .ok (.astore k, 2)) (hv : v.isRef = true) (hl : storeLocals Ls k v = some Ls') (hp : pc + 2 = pc') (h : own_Ends p e below Φ (T.setTop (mkF m pc' Ls' (rest)))) : own_Ends p e below Φ (T.setTop (mkF m pc Ls (v :: rest))) := by
  subst hp; exact own_via (fun _ k => XS.astore X.here hx (g := mkF m pc Ls (v :: rest)) rfl hd rfl hv hl k) h
theorem own_iconst (X : Stand p l e R s m args below meth c T locs cells slots) (hx : p.tables.exec = Jvm.exec) {pc pc' : Nat} {Ls : Array Slot} {rest : List Value} {i : Int} (v : Int32) (hd : decode c.code pc = .ok (.iconst i, 1)) (hv : Int32.ofInt i = v) (hp : pc + 1 = pc') (h : own_Ends p e below Φ (T.setTop (mkF m pc' Ls (.int v :: rest)))) : own_Ends p e below Φ (T.setTop (mkF m pc Ls rest)) := by
  subst hp hv; exact own_via (fun _ k => XS.iconst X.here hx (g := mkF m pc Ls rest) rfl hd k) h
theorem own_bipush (X : Stand p l e R s m args below meth c T locs cells slots) (hx : p.tables.exec = Jvm.exec) {pc pc' : Nat} {Ls : Array Slot} {rest : List Value} {i : Int} (v : Int32) (hd : decode c.code pc = .ok (.bipush i, 2)) (hv : (Int8.ofInt i).toInt32 = v) (hp : pc + 2 = pc') (h : own_Ends p e below Φ (T.setTop (mkF m pc' Ls (.int v :: rest)))) : own_Ends p e below Φ (T.setTop (mkF m pc Ls rest)) := by
  subst hp hv; exact own_via (fun _ k => XS.bipush X.here hx (g := mkF m pc Ls rest) rfl hd k) h
theorem own_sipush (X : Stand p l e R s m args below meth c T locs cells slots) (hx : p.tables.exec = Jvm.exec) {pc pc' : Nat} {Ls : Array Slot} {rest : List Value} {i : Int} (v : Int32) (hd : decode c.code pc = .ok (.sipush i, 3)) (hv : (Int16.ofInt i).toInt32 = v) (hp : pc + 3 = pc') (h : own_Ends p e below Φ (T.setTop (mkF m pc' Ls (.int v :: rest)))) : own_Ends p e below Φ (T.setTop (mkF m pc Ls rest)) := by
  subst hp hv; exact own_via (fun _ k => XS.sipush X.here hx (g := mkF m pc Ls rest) rfl hd k) h
theorem own_lconst (X : Stand p l e R s m args below meth c T locs cells slots) (hx : p.tables.exec = Jvm.exec) {pc pc' : Nat} {Ls : Array Slot} {rest : List Value} {i : Fin 2} (v : Int64) (hd : decode c.code pc = .ok (.lconst i, 1)) (hv : Int64.ofNat i = v) (hp : pc + 1 = pc') (h : own_Ends p e below Φ (T.setTop (mkF m pc' Ls (.long v :: rest)))) : own_Ends p e below Φ (T.setTop (mkF m pc Ls rest)) := by
  subst hp hv; exact own_via (fun _ k => XS.lconst X.here hx (g := mkF m pc Ls rest) rfl hd k) h
theorem own_aconst_null (X : Stand p l e R s m args below meth c T locs cells slots) (hx : p.tables.exec = Jvm.exec) {pc pc' : Nat} {Ls : Array Slot} {rest : List Value}  (hd : decode c.code pc = .ok (.aconst_null, 1))  (hp : pc + 1 = pc') (h : own_Ends p e below Φ (T.setTop (mkF m pc' Ls (.null :: rest)))) : own_Ends p e below Φ (T.setTop (mkF m pc Ls (rest))) := by
  subst hp; exact own_via (fun _ k => XS.aconstNull X.here hx (g := mkF m pc Ls (rest)) rfl hd  k) h
theorem own_iadd (X : Stand p l e R s m args below meth c T locs cells slots) (hx : p.tables.exec = Jvm.exec) {pc pc' : Nat} {Ls : Array Slot} {rest : List Value} {x y : Int32} (hd : decode c.code pc = .ok (.iadd, 1))  (hp : pc + 1 = pc') (h : own_Ends p e below Φ (T.setTop (mkF m pc' Ls (.int (x + y) :: rest)))) : own_Ends p e below Φ (T.setTop (mkF m pc Ls (.int y :: .int x :: rest))) := by
  subst hp; exact own_via (fun _ k => XS.iadd X.here hx (g := mkF m pc Ls (.int y :: .int x :: rest)) rfl hd rfl k) h
theorem own_isub (X : Stand p l e R s m args below meth c T locs cells slots) (hx : p.tables.exec = Jvm.exec) {pc pc' : Nat} {Ls : Array Slot} {rest : List Value} {x y : Int32} (hd : decode c.code pc = .ok (.isub, 1))  (hp : pc + 1 = pc') (h : own_Ends p e below Φ (T.setTop (mkF m pc' Ls (.int (x - y) :: rest)))) : own_Ends p e below Φ (T.setTop (mkF m pc Ls (.int y :: .int x :: rest))) := by
  subst hp; exact own_via (fun _ k => XS.isub X.here hx (g := mkF m pc Ls (.int y :: .int x :: rest)) rfl hd rfl k) h
theorem own_imul (X : Stand p l e R s m args below meth c T locs cells slots) (hx : p.tables.exec = Jvm.exec) {pc pc' : Nat} {Ls : Array Slot} {rest : List Value} {x y : Int32} (hd : decode c.code pc = .ok (.imul, 1))  (hp : pc + 1 = pc') (h : own_Ends p e below Φ (T.setTop (mkF m pc' Ls (.int (x * y) :: rest)))) : own_Ends p e below Φ (T.setTop (mkF m pc Ls (.int y :: .int x :: rest))) := by
  subst hp; exact own_via (fun _ k => XS.imul X.here hx (g := mkF m pc Ls (.int y :: .int x :: rest)) rfl hd rfl k) h
theorem own_iand (X : Stand p l e R s m args below meth c T locs cells slots) (hx : p.tables.exec = Jvm.exec) {pc pc' : Nat} {Ls : Array Slot} {rest : List Value} {x y : Int32} (hd : decode c.code pc = .ok (.iand, 1))  (hp : pc + 1 = pc') (h : own_Ends p e below Φ (T.setTop (mkF m pc' Ls (.int (x &&& y) :: rest)))) : own_Ends p e below Φ (T.setTop (mkF m pc Ls (.int y :: .int x :: rest))) := by
  subst hp; exact own_via (fun _ k => XS.iand X.here hx (g := mkF m pc Ls (.int y :: .int x :: rest)) rfl hd rfl k) h
theorem own_ior (X : Stand p l e R s m args below meth c T locs cells slots) (hx : p.tables.exec = Jvm.exec) {pc pc' : Nat} {Ls : Array Slot} {rest : List Value} {x y : Int32} (hd : decode c.code pc = .ok (.ior, 1))  (hp : pc + 1 = pc') (h : own_Ends p e below Φ (T.setTop (mkF m pc' Ls (.int (x ||| y) :: rest)))) : own_Ends p e below Φ (T.setTop (mkF m pc Ls (.int y :: .int x :: rest))) := by
  subst hp; exact own_via (fun _ k => XS.ior X.here hx (g := mkF m pc Ls (.int y :: .int x :: rest)) rfl hd rfl k) h
theorem own_ixor (X : Stand p l e R s m args below meth c T locs cells slots) (hx : p.tables.exec = Jvm.exec) {pc pc' : Nat} {Ls : Array Slot} {rest : List Value} {x y : Int32} (hd : decode c.code pc = .ok (.ixor, 1))  (hp : pc + 1 = pc') (h : own_Ends p e below Φ (T.setTop (mkF m pc' Ls (.int (x ^^^ y) :: rest)))) : own_Ends p e below Φ (T.setTop (mkF m pc Ls (.int y :: .int x :: rest))) := by
  subst hp; exact own_via (fun _ k => XS.ixor X.here hx (g := mkF m pc Ls (.int y :: .int x :: rest)) rfl hd rfl k) h
theorem own_ishl (X : Stand p l e R s m args below meth c T locs cells slots) (hx : p.tables.exec = Jvm.exec) {pc pc' : Nat} {Ls : Array Slot} {rest : List Value} {x y : Int32} (hd : decode c.code pc = .ok (.ishl, 1))  (hp : pc + 1 = pc') (h : own_Ends p e below Φ (T.setTop (mkF m pc' Ls (.int (x <<< (y &&& 31)) :: rest)))) : own_Ends p e below Φ (T.setTop (mkF m pc Ls (.int y :: .int x :: rest))) := by
  subst hp; exact own_via (fun _ k => XS.ishl X.here hx (g := mkF m pc Ls (.int y :: .int x :: rest)) rfl hd rfl k) h
theorem own_ishr (X : Stand p l e R s m args below meth c T locs cells slots) (hx : p.tables.exec = Jvm.exec) {pc pc' : Nat} {Ls : Array Slot} {rest : List Value} {x y : Int32} (hd : decode c.code pc = .ok (.ishr, 1))  (hp : pc + 1 = pc') (h : own_Ends p e below Φ (T.setTop (mkF m pc' Ls (.int (x >>> (y &&& 31)) :: rest)))) : own_Ends p e below Φ (T.setTop (mkF m pc Ls (.int y :: .int x :: rest))) := by
  subst hp; exact own_via (fun _ k => XS.ishr X.here hx (g := mkF m pc Ls (.int y :: .int x :: rest)) rfl hd rfl k) h
theorem own_iushr (X : Stand p l e R s m args below meth c T locs cells slots) (hx : p.tables.exec = Jvm.exec) {pc pc' : Nat} {Ls : Array Slot} {rest : List Value} {x y : Int32} (hd : decode c.code pc = .ok (.iushr, 1))  (hp : pc + 1 = pc') (h : own_Ends p e below Φ (T.setTop (mkF m pc' Ls (.int (own_ushr x y) :: rest)))) : own_Ends p e below Φ (T.setTop (mkF m pc Ls (.int y :: .int x :: rest))) := by
  subst hp; exact own_via (fun _ k => XS.iushr X.here hx (g := mkF m pc Ls (.int y :: .int x :: rest)) rfl hd rfl k) h
theorem own_ladd (X : Stand p l e R s m args below meth c T locs cells slots) (hx : p.tables.exec = Jvm.exec) {pc pc' : Nat} {Ls : Array Slot} {rest : List Value} {x y : Int64} (hd : decode c.code pc = .ok (.ladd, 1))  (hp : pc + 1 = pc') (h : own_Ends p e below Φ (T.setTop (mkF m pc' Ls (.long (x + y) :: rest)))) : own_Ends p e below Φ (T.setTop (mkF m pc Ls (.long y :: .long x :: rest))) := by
  subst hp; exact own_via (fun _ k => XS.ladd X.here hx (g := mkF m pc Ls (.long y :: .long x :: rest)) rfl hd rfl k) h
theorem own_lsub (X : Stand p l e R s m args below meth c T locs cells slots) (hx : p.tables.exec = Jvm.exec) {pc pc' : Nat} {Ls : Array Slot} {rest : List Value} {x y : Int64} (hd : decode c.code pc = .ok (.lsub, 1))  (hp : pc + 1 = pc') (h : own_Ends p e below Φ (T.setTop (mkF m pc' Ls (.long (x - y) :: rest)))) : own_Ends p e below Φ (T.setTop (mkF m pc Ls (.long y :: .long x :: rest))) := by
  subst hp; exact own_via (fun _ k => XS.lsub X.here hx (g := mkF m pc Ls (.long y :: .long x :: rest)) rfl hd rfl k) h
theorem own_lmul (X : Stand p l e R s m args below meth c T locs cells slots) (hx : p.tables.exec = Jvm.exec) {pc pc' : Nat} {Ls : Array Slot} {rest : List Value} {x y : Int64} (hd : decode c.code pc = .ok (.lmul, 1))  (hp : pc + 1 = pc') (h : own_Ends p e below Φ (T.setTop (mkF m pc' Ls (.long (x * y) :: rest)))) : own_Ends p e below Φ (T.setTop (mkF m pc Ls (.long y :: .long x :: rest))) := by
  subst hp; exact own_via (fun _ k => XS.lmul X.here hx (g := mkF m pc Ls (.long y :: .long x :: rest)) rfl hd rfl k) h
theorem own_land (X : Stand p l e R s m args below meth c T locs cells slots) (hx : p.tables.exec = Jvm.exec) {pc pc' : Nat} {Ls : Array Slot} {rest : List Value} {x y : Int64} (hd : decode c.code pc = .ok (.land, 1))  (hp : pc + 1 = pc') (h : own_Ends p e below Φ (T.setTop (mkF m pc' Ls (.long (x &&& y) :: rest)))) : own_Ends p e below Φ (T.setTop (mkF m pc Ls (.long y :: .long x :: rest))) := by
  subst hp; exact own_via (fun _ k => XS.land X.here hx (g := mkF m pc Ls (.long y :: .long x :: rest)) rfl hd rfl k) h
theorem own_lor (X : Stand p l e R s m args below meth c T locs cells slots) (hx : p.tables.exec = Jvm.exec) {pc pc' : Nat} {Ls : Array Slot} {rest : List Value} {x y : Int64} (hd : decode c.code pc = .ok (.lor, 1))  (hp : pc + 1 = pc') (h : own_Ends p e below Φ (T.setTop (mkF m pc' Ls (.long (x ||| y) :: rest)))) : own_Ends p e below Φ (T.setTop (mkF m pc Ls (.long y :: .long x :: rest))) := by
  subst hp; exact own_via (fun _ k => XS.lor X.here hx (g := mkF m pc Ls (.long y :: .long x :: rest)) rfl hd rfl k) h
theorem own_lxor (X : Stand p l e R s m args below meth c T locs cells slots) (hx : p.tables.exec = Jvm.exec) {pc pc' : Nat} {Ls : Array Slot} {rest : List Value} {x y : Int64} (hd : decode c.code pc = .ok (.lxor, 1))  (hp : pc + 1 = pc') (h : own_Ends p e below Φ (T.setTop (mkF m pc' Ls (.long (x ^^^ y) :: rest)))) : own_Ends p e below Φ (T.setTop (mkF m pc Ls (.long y :: .long x :: rest))) := by
  subst hp; exact own_via (fun _ k => XS.lxor X.here hx (g := mkF m pc Ls (.long y :: .long x :: rest)) rfl hd rfl k) h
theorem own_lshl (X : Stand p l e R s m args below meth c T locs cells slots) (hx : p.tables.exec = Jvm.exec) {pc pc' : Nat} {Ls : Array Slot} {rest : List Value} {x : Int64} {y : Int32} (hd : decode c.code pc = .ok (.lshl, 1))  (hp : pc + 1 = pc') (h : own_Ends p e below Φ (T.setTop (mkF m pc' Ls (.long (x <<< (y &&& 0x3f).toInt64) :: rest)))) : own_Ends p e below Φ (T.setTop (mkF m pc Ls (.int y :: .long x :: rest))) := by
  subst hp; exact own_via (fun _ k => XS.lshl X.here hx (g := mkF m pc Ls (.int y :: .long x :: rest)) rfl hd rfl k) h
theorem own_lshr (X : Stand p l e R s m args below meth c T locs cells slots) (hx : p.tables.exec = Jvm.exec) {pc pc' : Nat} {Ls : Array Slot} {rest : List Value} {x : Int64} {y : Int32} (hd : decode c.code pc = .ok (.lshr, 1))  (hp : pc + 1 = pc') (h : own_Ends p e below Φ (T.setTop (mkF m pc' Ls (.long (x >>> (y &&& 0x3f).toInt64) :: rest)))) : own_Ends p e below Φ (T.setTop (mkF m pc Ls (.int y :: .long x :: rest))) := by
  subst hp; exact own_via (fun _ k => XS.lshr X.here hx (g := mkF m pc Ls (.int y :: .long x :: rest)) rfl hd rfl k) h
theorem own_lushr (X : Stand p l e R s m args below meth c T locs cells slots) (hx : p.tables.exec = Jvm.exec) {pc pc' : Nat} {Ls : Array Slot} {rest : List Value} {x : Int64} {y : Int32} (hd : decode c.code pc = .ok (.lushr, 1))  (hp : pc + 1 = pc') (h : own_Ends p e below Φ (T.setTop (mkF m pc' Ls (.long (own_ushrL x y) :: rest)))) : own_Ends p e below Φ (T.setTop (mkF m pc Ls (.int y :: .long x :: rest))) := by
  subst hp; exact own_via (fun _ k => XS.lushr X.here hx (g := mkF m pc Ls (.int y :: .long x :: rest)) rfl hd rfl k) h
theorem own_idiv (X : Stand p l e R s m args below meth c T locs cells slots) (hx : p.tables.exec = Jvm.exec) {pc pc' : Nat} {Ls : Array Slot} {rest : List Value} {x y : Int32} (hd : decode c.code pc = .ok (.idiv, 1)) (hy : y ≠ 0) (hp : pc + 1 = pc') (h : own_Ends p e below Φ (T.setTop (mkF m pc' Ls (.int (x / y) :: rest)))) : own_Ends p e below Φ (T.setTop (mkF m pc Ls (.int y :: .int x :: rest))) := by
  subst hp; exact own_via (fun _ k => XS.idiv X.here hx (g := mkF m pc Ls (.int y :: .int x :: rest)) rfl hd rfl hy k) h
theorem own_irem (X : Stand p l e R s m args below meth c T locs cells slots) (hx : p.tables.exec = Jvm.exec) {pc pc' : Nat} {Ls : Array Slot} {rest : List Value} {x y : Int32} (hd : decode c.code pc = .ok (.irem, 1)) (hy : y ≠ 0) (hp : pc + 1 = pc') (h : own_Ends p e below Φ (T.setTop (mkF m pc' Ls (.int (x % y) :: rest)))) : own_Ends p e below Φ (T.setTop (mkF m pc Ls (.int y :: .int x :: rest))) := by
  subst hp; exact own_via (fun _ k => iremM X hx (g := mkF m pc Ls (.int y :: .int x :: rest)) rfl hd rfl hy k) h
theorem own_ineg (X : Stand p l e R s m args below meth c T locs cells slots) (hx : p.tables.exec = Jvm.exec) {pc pc' : Nat} {Ls : Array Slot} {rest : List Value} {x : Int32} (hd : decode c.code pc = .ok (.ineg, 1))  (hp : pc + 1 = pc') (h : own_Ends p e below Φ (T.setTop (mkF m pc' Ls (.int (-x) :: rest)))) : own_Ends p e below Φ (T.setTop (mkF m pc Ls (.int x :: rest))) := by
  subst hp; exact own_via (fun _ k => XS.ineg X.here hx (g := mkF m pc Ls (.int x :: rest)) rfl hd rfl k) h
theorem own_lneg (X : Stand p l e R s m args below meth c T locs cells slots) (hx : p.tables.exec = Jvm.exec) {pc pc' : Nat} {Ls : Array Slot} {rest : List Value} {x : Int64} (hd : decode c.code pc = .ok (.lneg, 1))  (hp : pc + 1 = pc') (h : own_Ends p e below Φ (T.setTop (mkF m pc' Ls (.long (-x) :: rest)))) : own_Ends p e below Φ (T.setTop (mkF m pc Ls (.long x :: rest))) := by
  subst hp; exact own_via (fun _ k => XS.lneg X.here hx (g := mkF m pc Ls (.long x :: rest)) rfl hd rfl k) h
theorem own_i2l (X : Stand p l e R s m args below meth c T locs cells slots) (hx : p.tables.exec = Jvm.exec) {pc pc' : Nat} {Ls : Array Slot} {rest : List Value} {x : Int32} (hd : decode c.code pc = .ok (.i2l, 1))  (hp : pc + 1 = pc') (h : own_Ends p e below Φ (T.setTop (mkF m pc' Ls (.long (x.toInt64) :: rest)))) : own_Ends p e below Φ (T.setTop (mkF m pc Ls (.int x :: rest))) := by
  subst hp; exact own_via (fun _ k => XS.i2l X.here hx (g := mkF m pc Ls (.int x :: rest)) rfl hd rfl k) h
theorem own_l2i (X : Stand p l e R s m args below meth c T locs cells slots) (hx : p.tables.exec = Jvm.exec) {pc pc' : Nat} {Ls : Array Slot} {rest : List Value} {x : Int64} (hd : decode c.code pc = .ok (.l2i, 1))  (hp : pc + 1 = pc') (h : own_Ends p e below Φ (T.setTop (mkF m pc' Ls (.int (x.toInt32) :: rest)))) : own_Ends p e below Φ (T.setTop (mkF m pc Ls (.long x :: rest))) := by
  subst hp; exact own_via (fun _ k => XS.l2i X.here hx (g := mkF m pc Ls (.long x :: rest)) rfl hd rfl k) h
theorem own_i2b (X : Stand p l e R s m args below meth c T locs cells slots) (hx : p.tables.exec = Jvm.exec) {pc pc' : Nat} {Ls : Array Slot} {rest : List Value} {x : Int32} (hd : decode c.code pc = .ok (.i2b, 1))  (hp : pc + 1 = pc') (h : own_Ends p e below Φ (T.setTop (mkF m pc' Ls (.int (x.toInt8.toInt32) :: rest)))) : own_Ends p e below Φ (T.setTop (mkF m pc Ls (.int x :: rest))) := by
  subst hp; exact own_via (fun _ k => XS.i2b X.here hx (g := mkF m pc Ls (.int x :: rest)) rfl hd rfl k) h
theorem own_i2c (X : Stand p l e R s m args below meth c T locs cells slots) (hx : p.tables.exec = Jvm.exec) {pc pc' : Nat} {Ls : Array Slot} {rest : List Value} {x : Int32} (hd : decode c.code pc = .ok (.i2c, 1))  (hp : pc + 1 = pc') (h : own_Ends p e below Φ (T.setTop (mkF m pc' Ls (.int (x.toUInt32.toUInt16.toUInt32.toInt32) :: rest)))) : own_Ends p e below Φ (T.setTop (mkF m pc Ls (.int x :: rest))) := by
  subst hp; exact own_via (fun _ k => XS.i2c X.here hx (g := mkF m pc Ls (.int x :: rest)) rfl hd rfl k) h
theorem own_i2s (X : Stand p l e R s m args below meth c T locs cells slots) (hx : p.tables.exec = Jvm.exec) {pc pc' : Nat} {Ls : Array Slot} {rest : List Value} {x : Int32} (hd : decode c.code pc = .ok (.i2s, 1))  (hp : pc + 1 = pc') (h : own_Ends p e below Φ (T.setTop (mkF m pc' Ls (.int (x.toInt16.toInt32) :: rest)))) : own_Ends p e below Φ (T.setTop (mkF m pc Ls (.int x :: rest))) := by
  subst hp; exact own_via (fun _ k => XS.i2s X.here hx (g := mkF m pc Ls (.int x :: rest)) rfl hd rfl k) h
theorem own_lcmp (X : Stand p l e R s m args below meth c T locs cells slots) (hx : p.tables.exec = Jvm.exec) {pc pc' : Nat} {Ls : Array Slot} {rest : List Value} {x y : Int64} (hd : decode c.code pc = .ok (.lcmp, 1))  (hp : pc + 1 = pc') (h : own_Ends p e below Φ (T.setTop (mkF m pc' Ls (.int (lcmpW x y) :: rest)))) : own_Ends p e below Φ (T.setTop (mkF m pc Ls (.long y :: .long x :: rest))) := by
  subst hp; exact own_via (fun _ k => XS.lcmp X.here hx (g := mkF m pc Ls (.long y :: .long x :: rest)) rfl hd rfl k) h
theorem own_dup (X : Stand p l e R s m args below meth c T locs cells slots) (hx : p.tables.exec = Jvm.exec) {pc pc' : Nat} {Ls : Array Slot} {rest : List Value} {x : Value} (hd : decode c.code pc = .ok (.dup, 1)) (hc : x.category = 1) (hp : pc + 1 = pc') (h : own_Ends p e below Φ (T.setTop (mkF m pc' Ls (x :: x :: rest)))) : own_Ends p e below Φ (T.setTop (mkF m pc Ls (x :: rest))) := by
  subst hp; exact own_via (fun _ k => XS.dup X.here hx (g := mkF m pc Ls (x :: rest)) rfl hd rfl hc k) h
theorem own_pop (X : Stand p l e R s m args below meth c T locs cells slots) (hx : p.tables.exec = Jvm.exec) {pc pc' : Nat} {Ls : Array Slot} {rest : List Value} {x : Value} (hd : decode c.code pc = .ok (.pop, 1)) (hc : x.category = 1) (hp : pc + 1 = pc') (h : own_Ends p e below Φ (T.setTop (mkF m pc' Ls (rest)))) : own_Ends p e below Φ (T.setTop (mkF m pc Ls (x :: rest))) := by
  subst hp; exact own_via (fun _ k => XS.pop X.here hx (g := mkF m pc Ls (x :: rest)) rfl hd rfl hc k) h
theorem own_dup_x1 (X : Stand p l e R s m args below meth c T locs cells slots) (hx : p.tables.exec = Jvm.exec) {pc pc' : Nat} {Ls : Array Slot} {rest : List Value} {x y : Value} (hd : decode c.code pc = .ok (.dup_x1, 1)) (hc : x.category = 1) (hc' : y.category = 1) (hp : pc + 1 = pc') (h : own_Ends p e below Φ (T.setTop (mkF m pc' Ls (x :: y :: x :: rest)))) : own_Ends p e below Φ (T.setTop (mkF m pc Ls (x :: y :: rest))) := by
  subst hp; exact own_via (fun _ k => XS.dupX1 X.here hx (g := mkF m pc Ls (x :: y :: rest)) rfl hd rfl hc hc' k) h
theorem own_iinc (X : Stand p l e R s m args below meth c T locs cells slots) (hx : p.tables.exec = Jvm.exec) {pc pc' : Nat} {Ls : Array Slot} {rest : List Value} {k : Nat} {cst : Int} {x : Int32} (Ls' : Array Slot) (hd : decode c.code pc = .ok (.iinc k cst, 3)) (hl : Ls[k]? = some (.val (.int x))) (hl' : storeLocals Ls k (.int (x + Int32.ofInt cst)) = some Ls') (hp : pc + 3 = pc') (h : own_Ends p e below Φ (T.setTop (mkF m pc' Ls' rest))) : own_Ends p e below Φ (T.setTop (mkF m pc Ls rest)) := by
  subst hp; exact own_via (fun _ k => XS.iinc X.here hx (g := mkF m pc Ls rest) rfl hd hl hl' k) h
theorem own_goto (X : Stand p l e R s m args below meth c T locs cells slots) (hx : p.tables.exec = Jvm.exec) {pc pc' : Nat} {Ls : Array Slot} {rest : List Value} {o : Int} (hd : decode c.code pc = .ok (.goto o, 3)) (ho : 0 ≤ (pc : Int) + o) (hp : ((pc : Int) + o).toNat = pc') (h : own_Ends p e below Φ (T.setTop (mkF m pc' Ls rest))) : own_Ends p e below Φ (T.setTop (mkF m pc Ls rest)) := own_via (fun _ k => XS.goto X.here hx (g := mkF m pc Ls rest) rfl (pc0 := pc) (pc' := pc') rfl hd ho hp k) h
theorem own_icmp_eq (X : Stand p l e R s m args below meth c T locs cells slots) (hx : p.tables.exec = Jvm.exec) {pc pcT pcF : Nat} {Ls : Array Slot} {rest : List Value} {x y : Int32} {o : Int} (hd : decode c.code pc = .ok (.if_icmp .eq o, 3)) (ho : 0 ≤ (pc : Int) + o) (hT : ((pc : Int) + o).toNat = pcT) (hF : pc + 3 = pcF) (kT : x = y → own_Ends p e below Φ (T.setTop (mkF m pcT Ls rest))) (kF : ¬ x = y → own_Ends p e below Φ (T.setTop (mkF m pcF Ls rest))) : own_Ends p e below Φ (T.setTop (mkF m pc Ls (.int y :: .int x :: rest))) := by
  subst hF; by_cases q : x = y
  · exact own_via (fun _ k => XS.icmpYes X.here hx (g := mkF m pc Ls (.int y :: .int x :: rest)) rfl (pc0 := pc) (pc' := pcT) rfl hd rfl (teq q).1 ho hT k) (kT q)
  · exact own_via (fun _ k => XS.icmpNo X.here hx (g := mkF m pc Ls (.int y :: .int x :: rest)) rfl hd rfl (feq q).1 k) (kF q)
theorem own_if_eq (X : Stand p l e R s m args below meth c T locs cells slots) (hx : p.tables.exec = Jvm.exec) {pc pcT pcF : Nat} {Ls : Array Slot} {rest : List Value} {x : Int32} {o : Int} (hd : decode c.code pc = .ok (.ifCond .eq o, 3)) (ho : 0 ≤ (pc : Int) + o) (hT : ((pc : Int) + o).toNat = pcT) (hF : pc + 3 = pcF) (kT : x = (0 : Int32) → own_Ends p e below Φ (T.setTop (mkF m pcT Ls rest))) (kF : ¬ x = (0 : Int32) → own_Ends p e below Φ (T.setTop (mkF m pcF Ls rest))) : own_Ends p e below Φ (T.setTop (mkF m pc Ls (.int x :: rest))) := by
  subst hF; by_cases q : x = (0 : Int32)
  · exact own_via (fun _ k => XS.ifYes X.here hx (g := mkF m pc Ls (.int x :: rest)) rfl (pc0 := pc) (pc' := pcT) rfl hd rfl ((if0 _ _).trans (teq q).1) ho hT k) (kT q)
  · exact own_via (fun _ k => XS.ifNo X.here hx (g := mkF m pc Ls (.int x :: rest)) rfl hd rfl ((if0 _ _).trans (feq q).1) k) (kF q)
theorem own_icmp_ne (X : Stand p l e R s m args below meth c T locs cells slots) (hx : p.tables.exec = Jvm.exec) {pc pcT pcF : Nat} {Ls : Array Slot} {rest : List Value} {x y : Int32} {o : Int} (hd : decode c.code pc = .ok (.if_icmp .ne o, 3)) (ho : 0 ≤ (pc : Int) + o) (hT : ((pc : Int) + o).toNat = pcT) (hF : pc + 3 = pcF) (kT : ¬ x = y → own_Ends p e below Φ (T.setTop (mkF m pcT Ls rest))) (kF : x = y → own_Ends p e below Φ (T.setTop (mkF m pcF Ls rest))) : own_Ends p e below Φ (T.setTop (mkF m pc Ls (.int y :: .int x :: rest))) := by
  subst hF; by_cases q : x = y
  · exact own_via (fun _ k => XS.icmpNo X.here hx (g := mkF m pc Ls (.int y :: .int x :: rest)) rfl hd rfl (teq q).2 k) (kF q)
  · exact own_via (fun _ k => XS.icmpYes X.here hx (g := mkF m pc Ls (.int y :: .int x :: rest)) rfl (pc0 := pc) (pc' := pcT) rfl hd rfl (feq q).2 ho hT k) (kT q)
theorem own_if_ne (X : Stand p l e R s m args below meth c T locs cells slots) (hx : p.tables.exec = Jvm.exec) {pc pcT pcF : Nat} {Ls : Array Slot} {rest : List Value} {x : Int32} {o : Int} (hd : decode c.code pc = .ok (.ifCond .ne o, 3)) (ho : 0 ≤ (pc : Int) + o) (hT : ((pc : Int) + o).toNat = pcT) (hF : pc + 3 = pcF) (kT : ¬ x = (0 : Int32) → own_Ends p e below Φ (T.setTop (mkF m pcT Ls rest))) (kF : x = (0 : Int32) → own_Ends p e below Φ (T.setTop (mkF m pcF Ls rest))) : own_Ends p e below Φ (T.setTop (mkF m pc Ls (.int x :: rest))) := by
  subst hF; by_cases q : x = (0 : Int32)
  · exact own_via (fun _ k => XS.ifNo X.here hx (g := mkF m pc Ls (.int x :: rest)) rfl hd rfl ((if0 _ _).trans (teq q).2) k) (kF q)
  · exact own_via (fun _ k => XS.ifYes X.here hx (g := mkF m pc Ls (.int x :: rest)) rfl (pc0 := pc) (pc' := pcT) rfl hd rfl ((if0 _ _).trans (feq q).2) ho hT k) (kT q)
theorem own_icmp_lt (X : Stand p l e R s m args below meth c T locs cells slots) (hx : p.tables.exec = Jvm.exec) {pc pcT pcF : Nat} {Ls : Array Slot} {rest : List Value} {x y : Int32} {o : Int} (hd : decode c.code pc = .ok (.if_icmp .lt o, 3)) (ho : 0 ≤ (pc : Int) + o) (hT : ((pc : Int) + o).toNat = pcT) (hF : pc + 3 = pcF) (kT : x < y → own_Ends p e below Φ (T.setTop (mkF m pcT Ls rest))) (kF : ¬ x < y → own_Ends p e below Φ (T.setTop (mkF m pcF Ls rest))) : own_Ends p e below Φ (T.setTop (mkF m pc Ls (.int y :: .int x :: rest))) := by
  subst hF; by_cases q : x < y
  · exact own_via (fun _ k => XS.icmpYes X.here hx (g := mkF m pc Ls (.int y :: .int x :: rest)) rfl (pc0 := pc) (pc' := pcT) rfl hd rfl (tlt q).1 ho hT k) (kT q)
  · exact own_via (fun _ k => XS.icmpNo X.here hx (g := mkF m pc Ls (.int y :: .int x :: rest)) rfl hd rfl (flt q).1 k) (kF q)
theorem own_if_lt (X : Stand p l e R s m args below meth c T locs cells slots) (hx : p.tables.exec = Jvm.exec) {pc pcT pcF : Nat} {Ls : Array Slot} {rest : List Value} {x : Int32} {o : Int} (hd : decode c.code pc = .ok (.ifCond .lt o, 3)) (ho : 0 ≤ (pc : Int) + o) (hT : ((pc : Int) + o).toNat = pcT) (hF : pc + 3 = pcF) (kT : x < (0 : Int32) → own_Ends p e below Φ (T.setTop (mkF m pcT Ls rest))) (kF : ¬ x < (0 : Int32) → own_Ends p e below Φ (T.setTop (mkF m pcF Ls rest))) : own_Ends p e below Φ (T.setTop (mkF m pc Ls (.int x :: rest))) := by
  subst hF; by_cases q : x < (0 : Int32)
  · exact own_via (fun _ k => XS.ifYes X.here hx (g := mkF m pc Ls (.int x :: rest)) rfl (pc0 := pc) (pc' := pcT) rfl hd rfl ((if0 _ _).trans (tlt q).1) ho hT k) (kT q)
  · exact own_via (fun _ k => XS.ifNo X.here hx (g := mkF m pc Ls (.int x :: rest)) rfl hd rfl ((if0 _ _).trans (flt q).1) k) (kF q)
theorem own_icmp_ge (X : Stand p l e R s m args below meth c T locs cells slots) (hx : p.tables.exec = Jvm.exec) {pc pcT pcF : Nat} {Ls : Array Slot} {rest : List Value} {x y : Int32} {o : Int} (hd : decode c.code pc = .ok (.if_icmp .ge o, 3)) (ho : 0 ≤ (pc : Int) + o) (hT : ((pc : Int) + o).toNat = pcT) (hF : pc + 3 = pcF) (kT : ¬ x < y → own_Ends p e below Φ (T.setTop (mkF m pcT Ls rest))) (kF : x < y → own_Ends p e below Φ (T.setTop (mkF m pcF Ls rest))) : own_Ends p e below Φ (T.setTop (mkF m pc Ls (.int y :: .int x :: rest))) := by
  subst hF; by_cases q : x < y
  · exact own_via (fun _ k => XS.icmpNo X.here hx (g := mkF m pc Ls (.int y :: .int x :: rest)) rfl hd rfl (tlt q).2.1 k) (kF q)
  · exact own_via (fun _ k => XS.icmpYes X.here hx (g := mkF m pc Ls (.int y :: .int x :: rest)) rfl (pc0 := pc) (pc' := pcT) rfl hd rfl (flt q).2.1 ho hT k) (kT q)
theorem own_if_ge (X : Stand p l e R s m args below meth c T locs cells slots) (hx : p.tables.exec = Jvm.exec) {pc pcT pcF : Nat} {Ls : Array Slot} {rest : List Value} {x : Int32} {o : Int} (hd : decode c.code pc = .ok (.ifCond .ge o, 3)) (ho : 0 ≤ (pc : Int) + o) (hT : ((pc : Int) + o).toNat = pcT) (hF : pc + 3 = pcF) (kT : ¬ x < (0 : Int32) → own_Ends p e below Φ (T.setTop (mkF m pcT Ls rest))) (kF : x < (0 : Int32) → own_Ends p e below Φ (T.setTop (mkF m pcF Ls rest))) : own_Ends p e below Φ (T.setTop (mkF m pc Ls (.int x :: rest))) := by
  subst hF; by_cases q : x < (0 : Int32)
  · exact own_via (fun _ k => XS.ifNo X.here hx (g := mkF m pc Ls (.int x :: rest)) rfl hd rfl ((if0 _ _).trans (tlt q).2.1) k) (kF q)
  · exact own_via (fun _ k => XS.ifYes X.here hx (g := mkF m pc Ls (.int x :: rest)) rfl (pc0 := pc) (pc' := pcT) rfl hd rfl ((if0 _ _).trans (flt q).2.1) ho hT k) (kT q)
theorem own_icmp_gt (X : Stand p l e R s m args below meth c T locs cells slots) (hx : p.tables.exec = Jvm.exec) {pc pcT pcF : Nat} {Ls : Array Slot} {rest : List Value} {x y : Int32} {o : Int} (hd : decode c.code pc = .ok (.if_icmp .gt o, 3)) (ho : 0 ≤ (pc : Int) + o) (hT : ((pc : Int) + o).toNat = pcT) (hF : pc + 3 = pcF) (kT : y < x → own_Ends p e below Φ (T.setTop (mkF m pcT Ls rest))) (kF : ¬ y < x → own_Ends p e below Φ (T.setTop (mkF m pcF Ls rest))) : own_Ends p e below Φ (T.setTop (mkF m pc Ls (.int y :: .int x :: rest))) := by
  subst hF; by_cases q : y < x
  · exact own_via (fun _ k => XS.icmpYes X.here hx (g := mkF m pc Ls (.int y :: .int x :: rest)) rfl (pc0 := pc) (pc' := pcT) rfl hd rfl (tlt q).2.2.1 ho hT k) (kT q)
  · exact own_via (fun _ k => XS.icmpNo X.here hx (g := mkF m pc Ls (.int y :: .int x :: rest)) rfl hd rfl (flt q).2.2.1 k) (kF q)
theorem own_if_gt (X : Stand p l e R s m args below meth c T locs cells slots) (hx : p.tables.exec = Jvm.exec) {pc pcT pcF : Nat} {Ls : Array Slot} {rest : List Value} {x : Int32} {o : Int} (hd : decode c.code pc = .ok (.ifCond .gt o, 3)) (ho : 0 ≤ (pc : Int) + o) (hT : ((pc : Int) + o).toNat = pcT) (hF : pc + 3 = pcF) (kT : (0 : Int32) < x → own_Ends p e below Φ (T.setTop (mkF m pcT Ls rest))) (kF : ¬ (0 : Int32) < x → own_Ends p e below Φ (T.setTop (mkF m pcF Ls rest))) : own_Ends p e below Φ (T.setTop (mkF m pc Ls (.int x :: rest))) := by
  subst hF; by_cases q : (0 : Int32) < x
  · exact own_via (fun _ k => XS.ifYes X.here hx (g := mkF m pc Ls (.int x :: rest)) rfl (pc0 := pc) (pc' := pcT) rfl hd rfl ((if0 _ _).trans (tlt q).2.2.1) ho hT k) (kT q)
  · exact own_via (fun _ k => XS.ifNo X.here hx (g := mkF m pc Ls (.int x :: rest)) rfl hd rfl ((if0 _ _).trans (flt q).2.2.1) k) (kF q)
theorem own_icmp_le (X : Stand p l e R s m args below meth c T locs cells slots) (hx : p.tables.exec = Jvm.exec) {pc pcT pcF : Nat} {Ls : Array Slot} {rest : List Value} {x y : Int32} {o : Int} (hd : decode c.code pc = .ok (.if_icmp .le o, 3)) (ho : 0 ≤ (pc : Int) + o) (hT : ((pc : Int) + o).toNat = pcT) (hF : pc + 3 = pcF) (kT : ¬ y < x → own_Ends p e below Φ (T.setTop (mkF m pcT Ls rest))) (kF : y < x → own_Ends p e below Φ (T.setTop (mkF m pcF Ls rest))) : own_Ends p e below Φ (T.setTop (mkF m pc Ls (.int y :: .int x :: rest))) := by
  subst hF; by_cases q : y < x
  · exact own_via (fun _ k => XS.icmpNo X.here hx (g := mkF m pc Ls (.int y :: .int x :: rest)) rfl hd rfl (tlt q).2.2.2 k) (kF q)
  · exact own_via (fun _ k => XS.icmpYes X.here hx (g := mkF m pc Ls (.int y :: .int x :: rest)) rfl (pc0 := pc) (pc' := pcT) rfl hd rfl (flt q).2.2.2 ho hT k) (kT q)
theorem own_if_le (X : Stand p l e R s m args below meth c T locs cells slots) (hx : p.tables.exec = Jvm.exec) {pc pcT pcF : Nat} {Ls : Array Slot} {rest : List Value} {x : Int32} {o : Int} (hd : decode c.code pc = .ok (.ifCond .le o, 3)) (ho : 0 ≤ (pc : Int) + o) (hT : ((pc : Int) + o).toNat = pcT) (hF : pc + 3 = pcF) (kT : ¬ (0 : Int32) < x → own_Ends p e below Φ (T.setTop (mkF m pcT Ls rest))) (kF : (0 : Int32) < x → own_Ends p e below Φ (T.setTop (mkF m pcF Ls rest))) : own_Ends p e below Φ (T.setTop (mkF m pc Ls (.int x :: rest))) := by
  subst hF; by_cases q : (0 : Int32) < x
  · exact own_via (fun _ k => XS.ifNo X.here hx (g := mkF m pc Ls (.int x :: rest)) rfl hd rfl ((if0 _ _).trans (tlt q).2.2.2) k) (kF q)
  · exact own_via (fun _ k => XS.ifYes X.here hx (g := mkF m pc Ls (.int x :: rest)) rfl (pc0 := pc) (pc' := pcT) rfl hd rfl ((if0 _ _).trans (flt q).2.2.2) ho hT k) (kT q)
theorem own_icmpT (X : Stand p l e R s m args below meth c T locs cells slots) (hx : p.tables.exec = Jvm.exec) {pc pcT : Nat} {Ls : Array Slot} {rest : List Value} {x y : Int32} {cd : ClassFile.Cond} {o : Int} (hd : decode c.code pc = .ok (.if_icmp cd o, 3)) (ho : 0 ≤ (pc : Int) + o) (hT : ((pc : Int) + o).toNat = pcT) (q : if_icmp.holds cd x y = true) (h : own_Ends p e below Φ (T.setTop (mkF m pcT Ls rest))) : own_Ends p e below Φ (T.setTop (mkF m pc Ls (.int y :: .int x :: rest))) :=
  own_via (fun _ k => XS.icmpYes X.here hx (g := mkF m pc Ls (.int y :: .int x :: rest)) rfl (pc0 := pc) (pc' := pcT) rfl hd rfl q ho hT k) h
theorem own_icmpF (X : Stand p l e R s m args below meth c T locs cells slots) (hx : p.tables.exec = Jvm.exec) {pc pcF : Nat} {Ls : Array Slot} {rest : List Value} {x y : Int32} {cd : ClassFile.Cond} {o : Int} (hd : decode c.code pc = .ok (.if_icmp cd o, 3)) (hF : pc + 3 = pcF) (q : if_icmp.holds cd x y = false) (h : own_Ends p e below Φ (T.setTop (mkF m pcF Ls rest))) : own_Ends p e below Φ (T.setTop (mkF m pc Ls (.int y :: .int x :: rest))) := by
  subst hF; exact own_via (fun _ k => XS.icmpNo X.here hx (g := mkF m pc Ls (.int y :: .int x :: rest)) rfl hd rfl q k) h
theorem own_ifT (X : Stand p l e R s m args below meth c T locs cells slots) (hx : p.tables.exec = Jvm.exec) {pc pcT : Nat} {Ls : Array Slot} {rest : List Value} {x : Int32} {cd : ClassFile.Cond} {o : Int} (hd : decode c.code pc = .ok (.ifCond cd o, 3)) (ho : 0 ≤ (pc : Int) + o) (hT : ((pc : Int) + o).toNat = pcT) (q : if_icmp.holds cd x 0 = true) (h : own_Ends p e below Φ (T.setTop (mkF m pcT Ls rest))) : own_Ends p e below Φ (T.setTop (mkF m pc Ls (.int x :: rest))) :=
  own_via (fun _ k => XS.ifYes X.here hx (g := mkF m pc Ls (.int x :: rest)) rfl (pc0 := pc) (pc' := pcT) rfl hd rfl ((if0 _ _).trans q) ho hT k) h
theorem own_ifF (X : Stand p l e R s m args below meth c T locs cells slots) (hx : p.tables.exec = Jvm.exec) {pc pcF : Nat} {Ls : Array Slot} {rest : List Value} {x : Int32} {cd : ClassFile.Cond} {o : Int} (hd : decode c.code pc = .ok (.ifCond cd o, 3)) (hF : pc + 3 = pcF) (q : if_icmp.holds cd x 0 = false) (h : own_Ends p e below Φ (T.setTop (mkF m pcF Ls rest))) : own_Ends p e below Φ (T.setTop (mkF m pc Ls (.int x :: rest))) := by
  subst hF; exact own_via (fun _ k => XS.ifNo X.here hx (g := mkF m pc Ls (.int x :: rest)) rfl hd rfl ((if0 _ _).trans q) k) h
theorem own_ifnullT (X : Stand p l e R s m args below meth c T locs cells slots) (hx : p.tables.exec = Jvm.exec) {pc pcT : Nat} {Ls : Array Slot} {rest : List Value} {o : Int} (hd : decode c.code pc = .ok (.ifnull o, 3)) (ho : 0 ≤ (pc : Int) + o) (hT : ((pc : Int) + o).toNat = pcT) (h : own_Ends p e below Φ (T.setTop (mkF m pcT Ls rest))) : own_Ends p e below Φ (T.setTop (mkF m pc Ls (.null :: rest))) :=
  own_via (fun _ k => XS.ifnullYes X.here hx (g := mkF m pc Ls (.null :: rest)) rfl (pc0 := pc) (pc' := pcT) rfl hd rfl ho hT k) h
theorem own_ifnullF (X : Stand p l e R s m args below meth c T locs cells slots) (hx : p.tables.exec = Jvm.exec) {pc pcF : Nat} {Ls : Array Slot} {rest : List Value} {b : Addr} {o : Int} (hd : decode c.code pc = .ok (.ifnull o, 3)) (hF : pc + 3 = pcF) (h : own_Ends p e below Φ (T.setTop (mkF m pcF Ls rest))) : own_Ends p e below Φ (T.setTop (mkF m pc Ls (.ref b :: rest))) := by
  subst hF; exact own_via (fun _ k => XS.ifnullNo X.here hx (g := mkF m pc Ls (.ref b :: rest)) rfl hd rfl k) h
theorem own_ifnonnullT (X : Stand p l e R s m args below meth c T locs cells slots) (hx : p.tables.exec = Jvm.exec) {pc pcT : Nat} {Ls : Array Slot} {rest : List Value} {b : Addr} {o : Int} (hd : decode c.code pc = .ok (.ifnonnull o, 3)) (ho : 0 ≤ (pc : Int) + o) (hT : ((pc : Int) + o).toNat = pcT) (h : own_Ends p e below Φ (T.setTop (mkF m pcT Ls rest))) : own_Ends p e below Φ (T.setTop (mkF m pc Ls (.ref b :: rest))) :=
  own_via (fun _ k => XS.ifnonnullYes X.here hx (g := mkF m pc Ls (.ref b :: rest)) rfl (pc0 := pc) (pc' := pcT) rfl hd rfl ho hT k) h
theorem own_ifnonnullF (X : Stand p l e R s m args below meth c T locs cells slots) (hx : p.tables.exec = Jvm.exec) {pc pcF : Nat} {Ls : Array Slot} {rest : List Value} {o : Int} (hd : decode c.code pc = .ok (.ifnonnull o, 3)) (hF : pc + 3 = pcF) (h : own_Ends p e below Φ (T.setTop (mkF m pcF Ls rest))) : own_Ends p e below Φ (T.setTop (mkF m pc Ls (.null :: rest))) := by
  subst hF; exact own_via (fun _ k => XS.ifnonnullNo X.here hx (g := mkF m pc Ls (.null :: rest)) rfl hd rfl k) h
theorem own_acmp (X : Stand p l e R s m args below meth c T locs cells slots) (hx : p.tables.exec = Jvm.exec) {pc pcT pcF : Nat} {Ls : Array Slot} {rest : List Value} {x y : Value} {cd : ClassFile.ACond} {o : Int} (hd : decode c.code pc = .ok (.if_acmp cd o, 3)) (h1 : x.isRef = true) (h2 : y.isRef = true) (ho : 0 ≤ (pc : Int) + o) (hT : ((pc : Int) + o).toNat = pcT) (hF : pc + 3 = pcF)
    (kT : acV cd (decide (x = y)) = true → own_Ends p e below Φ (T.setTop (mkF m pcT Ls rest))) (kF : acV cd (decide (x = y)) = false → own_Ends p e below Φ (T.setTop (mkF m pcF Ls rest))) : own_Ends p e below Φ (T.setTop (mkF m pc Ls (y :: x :: rest))) := by
  subst hF hT
  rcases q : acV cd (decide (x = y)) with _ | _
  · exact own_via (fun _ k => Jvm.RoadKit.acmp (g := mkF m pc Ls (y :: x :: rest)) X hx rfl h1 h2 (pc0 := pc) (pc' := pc + 3) rfl hd rfl rfl ho (by rw [q]; rfl) k) (kF q)
  · exact own_via (fun _ k => Jvm.RoadKit.acmp (g := mkF m pc Ls (y :: x :: rest)) X hx rfl h1 h2 (pc0 := pc) (pc' := ((pc : Int) + o).toNat) rfl hd rfl rfl ho (by rw [q]; rfl) k) (kT q)
theorem own_acmp_eq (X : Stand p l e R s m args below meth c T locs cells slots) (hx : p.tables.exec = Jvm.exec) {pc pcT pcF : Nat} {Ls : Array Slot} {rest : List Value} {x y : Addr} {o : Int} (hd : decode c.code pc = .ok (.if_acmp .eq o, 3)) (ho : 0 ≤ (pc : Int) + o) (hT : ((pc : Int) + o).toNat = pcT) (hF : pc + 3 = pcF)
    (kT : x = y → own_Ends p e below Φ (T.setTop (mkF m pcT Ls rest))) (kF : ¬ x = y → own_Ends p e below Φ (T.setTop (mkF m pcF Ls rest))) : own_Ends p e below Φ (T.setTop (mkF m pc Ls (.ref y :: .ref x :: rest))) :=
  own_acmp X hx hd rfl rfl ho hT hF (fun q => kT (by simpa [acV] using q)) (fun q => kF (by simpa [acV] using q))
theorem own_acmp_ne (X : Stand p l e R s m args below meth c T locs cells slots) (hx : p.tables.exec = Jvm.exec) {pc pcT pcF : Nat} {Ls : Array Slot} {rest : List Value} {x y : Addr} {o : Int} (hd : decode c.code pc = .ok (.if_acmp .ne o, 3)) (ho : 0 ≤ (pc : Int) + o) (hT : ((pc : Int) + o).toNat = pcT) (hF : pc + 3 = pcF)
    (kT : ¬ x = y → own_Ends p e below Φ (T.setTop (mkF m pcT Ls rest))) (kF : x = y → own_Ends p e below Φ (T.setTop (mkF m pcF Ls rest))) : own_Ends p e below Φ (T.setTop (mkF m pc Ls (.ref y :: .ref x :: rest))) :=
  own_acmp X hx hd rfl rfl ho hT hF (fun q => kT (by simpa [acV] using q)) (fun q => kF (by simpa [acV] using q))
theorem own_ldcInt (X : Stand p l e R s m args below meth c T locs cells slots) (hx : p.tables.exec = Jvm.exec) (hZ : Z.Warmed39 s.vm) {own : String} {index : Nat} {v : Int32} (hown : s.vm.findClass own = some m.cls) (w : (Jvm.Cond.constant own index v).before a0 Z = true) {pc pc' : Nat} {Ls : Array Slot} {rest : List Value} (hd : decode c.code pc = .ok (.ldc index, 2)) (hp : pc + 2 = pc') (h : own_Ends p e below Φ (T.setTop (mkF m pc' Ls (.int v :: rest)))) : own_Ends p e below Φ (T.setTop (mkF m pc Ls rest)) := by
  subst hp; exact own_via (X.ldcInt hx hown (mvT hZ w) (g := mkF m pc Ls rest) rfl hd) h
theorem own_getF (X : Stand p l e R s m args below meth c T locs cells slots) (hx : p.tables.exec = Jvm.exec) (hZ : Z.Warmed39 s.vm) {own R0 O n d host : String} {index : Nat} (hown : s.vm.findClass own = some m.cls) (w : (Jvm.Cond.fieldLink own index R0 n d).before a0 Z = true ∨ (Jvm.Cond.fieldLinkNest own index R0 n d host).before a0 Z = true) (via : Via Z R0 O n d) (eT : T.heap = h) {a : Addr} {v : Value} (F : Fld Z h a O n d v) {pc pc' : Nat} {Ls : Array Slot} {rest : List Value}
    (hd : decode c.code pc = .ok (.getfield index, 3)) (hp : pc + 3 = pc') (k : ∀ T', Stand p l e R s m args below meth c T' locs cells slots → T'.heap = h → own_Ends p e below Φ (T'.setTop (mkF m pc' Ls (v :: rest)))) : own_Ends p e below Φ (T.setTop (mkF m pc Ls (.ref a :: rest))) := by
  subst hp; obtain ⟨T', X', e', st⟩ := getF X hx hZ hown w via eT F (g := mkF m pc Ls (.ref a :: rest)) rfl rfl hd
  exact own_via st (k T' X' e')
theorem own_getS (X : Stand p l e R s m args below meth c T locs cells slots) (hx : p.tables.exec = Jvm.exec) (hZ : Z.Warmed39 s.vm) {own R0 O n d host : String} {index : Nat} (hown : s.vm.findClass own = some m.cls) (w : (Jvm.Cond.fieldLink own index R0 n d).before a0 Z = true ∨ (Jvm.Cond.fieldLinkNest own index R0 n d host).before a0 Z = true) (via : Via Z R0 O n d) (eT : T.heap = h) {v : Value} (F : Sta Z h O n d v) {pc pc' : Nat} {Ls : Array Slot} {rest : List Value}
    (hd : decode c.code pc = .ok (.getstatic index, 3)) (hp : pc + 3 = pc') (k : ∀ T', Stand p l e R s m args below meth c T' locs cells slots → T'.heap = h → own_Ends p e below Φ (T'.setTop (mkF m pc' Ls (v :: rest)))) : own_Ends p e below Φ (T.setTop (mkF m pc Ls rest)) := by
  subst hp; obtain ⟨T', X', e', st⟩ := getS2 X hx hZ hown w via eT F (g := mkF m pc Ls rest) rfl hd
  exact own_via st (k T' X' e')
theorem own_putF (X : Stand p l e R s m args below meth c T locs cells slots) (hx : p.tables.exec = Jvm.exec) (hZ : Z.Warmed39 s.vm) {own R0 O n d host C : String} {index kk : Nat} {ty : FieldType} (hown : s.vm.findClass own = some m.cls) (w : (Jvm.Cond.fieldLink own index R0 n d).before a0 Z = true ∨ (Jvm.Cond.fieldLinkNest own index R0 n d host).before a0 Z = true) (via : Via Z R0 O n d) (eT : T.heap = h) {a : Addr} {v old : Value} (F : Fld Z h a O n d old) (E : Exa Z h a C)
    (L : (Jvm.Cond.lays C O n d).before a0 Z = true ∨ ((Jvm.Cond.laysFinal C O n d).before a0 Z = true ∧ own = O ∧ meth.name = "<init>")) (wi : (Jvm.Cond.instantiable C kk).before a0 Z = true) (hty : parseFieldDescriptor d = some ty) (hn : narrow ty v = v) (hf : fits ty v = true) {n0 : Nat} (N : Fr n0 locs) (g : n0 ≤ a) {pc pc' : Nat} {Ls : Array Slot} {rest : List Value}
    (hd : decode c.code pc = .ok (.putfield index, 3)) (hp : pc + 3 = pc') (k : ∀ T' h', Stand p l e R s m args below meth c T' (locs ++ [⟨a, Jvm.RoadKit.slotOf Z O n d⟩]) cells slots → T'.heap = h' → Wr h h' a (Jvm.RoadKit.slotOf Z O n d) v → Fr n0 (locs ++ [⟨a, Jvm.RoadKit.slotOf Z O n d⟩]) → own_Ends p e below Φ (T'.setTop (mkF m pc' Ls rest))) : own_Ends p e below Φ (T.setTop (mkF m pc Ls (v :: .ref a :: rest))) := by
  subst hp; obtain ⟨T', h', X', e', W', st⟩ := putF X hx hZ hown w via eT F E L wi hty hn hf (g := mkF m pc Ls (v :: .ref a :: rest)) rfl rfl hd
  exact own_via st (k T' h' X' e' W' (Fr.snoc X' N g))
theorem own_putFN (X : Stand p l e R s m args below meth c T locs cells slots) (hx : p.tables.exec = Jvm.exec) (hZ : Z.Warmed39 s.vm) {own R0 O n d C : String} {index kk : Nat} {ty : FieldType} (hown : s.vm.findClass own = some m.cls) (w : (Jvm.Cond.fieldLink own index R0 n d).before a0 Z = true) (via : Via Z R0 O n d) (eT : T.heap = h) {a : Addr} {v old : Value} (v' : Value) (F : Fld Z h a O n d old) (E : Exa Z h a C)
    (L : (Jvm.Cond.lays C O n d).before a0 Z = true ∨ ((Jvm.Cond.laysFinal C O n d).before a0 Z = true ∧ own = O ∧ meth.name = "<init>")) (wi : (Jvm.Cond.instantiable C kk).before a0 Z = true) (hty : parseFieldDescriptor d = some ty) (hn : narrow ty v = v') (hf : fits ty v' = true) {n0 : Nat} (N : Fr n0 locs) (g : n0 ≤ a) {pc pc' : Nat} {Ls : Array Slot} {rest : List Value}
    (hd : decode c.code pc = .ok (.putfield index, 3)) (hp : pc + 3 = pc') (k : ∀ T' h', Stand p l e R s m args below meth c T' (locs ++ [⟨a, Jvm.RoadKit.slotOf Z O n d⟩]) cells slots → T'.heap = h' → Wr h h' a (Jvm.RoadKit.slotOf Z O n d) v' → Fr n0 (locs ++ [⟨a, Jvm.RoadKit.slotOf Z O n d⟩]) → own_Ends p e below Φ (T'.setTop (mkF m pc' Ls rest))) : own_Ends p e below Φ (T.setTop (mkF m pc Ls (v :: .ref a :: rest))) := by
  subst hp; obtain ⟨T', h', X', e', W', st⟩ := putFN X hx hZ hown w via eT F E L wi hty hn hf (g := mkF m pc Ls (v :: .ref a :: rest)) rfl rfl hd
  exact own_via st (k T' h' X' e' W' (Fr.snoc X' N g))
theorem own_new (X : Stand p l e R s m args below meth c T locs cells slots) (hx : p.tables.exec = Jvm.exec) (hZ : Z.Warmed39 s.vm) {own C : String} {index n : Nat} (hown : s.vm.findClass own = some m.cls) (w : (Jvm.Cond.classLink own index C).before a0 Z = true) (wi : (Jvm.Cond.instantiable C n).before a0 Z = true) (wz : (Jvm.Cond.initialized C).before a0 Z = true) (eT : T.heap = h) {pc pc' : Nat} {Ls : Array Slot} {rest : List Value}
    (hd : decode c.code pc = .ok (.new index, 3)) (hc : cells + 1 ≤ R.cells) (hl : slots + n ≤ R.slots) (hp : pc + 3 = pc')
    (k : ∀ T' h' b, Stand p l e R s m args below meth c T' locs (cells + 1) (slots + n) → T'.heap = h' → b = h.size → Ext h h' → Exa Z h' b C → (∀ {O nm d : String} {ty : FieldType}, Laid Z a0 C O nm d → parseFieldDescriptor d = some ty → Fld Z h' b O nm d (defaultValue ty)) → own_Ends p e below Φ (T'.setTop (mkF m pc' Ls (.ref b :: rest)))) : own_Ends p e below Φ (T.setTop (mkF m pc Ls rest)) := by
  subst hp; obtain ⟨T', h', X', e', E', A', D', -, st⟩ := newO X hx hZ hown w wi wz eT (g := mkF m pc Ls rest) rfl hd hc hl
  exact own_via st (k T' h' _ X' e' rfl E' A' D')
theorem own_initO (X : Stand p l e R s m args below meth c T locs cells slots) (hx : p.tables.exec = Jvm.exec) (hZ : Z.Warmed39 s.vm) {own : String} {idx : Nat} (hown : s.vm.findClass own = some m.cls) (w1 : (Jvm.Cond.methodLink own idx Lib.objectInit).before a0 Z = true) (w2 : (Jvm.Cond.instanceMethod Lib.objectInit).before a0 Z = true) (w3 : (Jvm.Cond.code Lib.objectInit ⟨#[0xb1]⟩ 1 none).before a0 Z = true) (eT : T.heap = h) {a : Addr} {pc pc' : Nat} {Ls : Array Slot} {rest : List Value} (hsize : Ls.size = c.maxLocals)
    (hd : decode c.code pc = .ok (.invokespecial idx, 3)) (W : Nat) (hW : (rest.map fun v => v.category).sum = W) (hf : 1 ≤ R.frames) (hl : W + 12 ≤ R.locals) (hp : pc + 3 = pc') (k : ∀ T', Stand p l e R s m args below meth c T' locs cells slots → T'.heap = h → own_Ends p e below Φ (T'.setTop (mkF m pc' Ls rest))) : own_Ends p e below Φ (T.setTop (mkF m pc Ls (.ref a :: rest))) := by
  subst hp; obtain ⟨T', X', e', st⟩ := initO X hx hZ hown w1 w2 w3 eT (g := mkF m pc Ls (.ref a :: rest)) rfl hsize rfl hd hf (W := W) (by rw [← hW]; show 2 * 0 + _ ≤ _; omega) hl
  exact own_via st (k T' X' e')
theorem own_static (X : Stand p l e R s m args below meth c T locs cells slots) (hx : p.tables.exec = Jvm.exec) (hZ : Z.Warmed39 s.vm) {own : String} {index : Nat} {y : MethodName} {bytes : ByteArray} {maxL : Nat} {ret : Option FieldType} {rm : Room} {Q : Option Value → Heap → List Loc → Prop} (hown : s.vm.findClass own = some m.cls) (w1 : (Jvm.Cond.methodLink own index y).before a0 Z = true) (w2 : (Jvm.Cond.static y).before a0 Z = true) (w3 : (Jvm.Cond.initialized y.cls).before a0 Z = true) (w4 : (Jvm.Cond.code y bytes maxL ret).before a0 Z = true) (hy : y.cls ≠ "java/lang/invoke/MethodHandle" ∧ y.cls ≠ "java/lang/invoke/VarHandle") (eT : T.heap = h) (hf : rm.frames + 1 ≤ R.frames) {W : Nat} (hl : W + (maxL + 11) + rm.locals ≤ R.locals) (hc : cells + rm.cells ≤ R.cells) (hs : slots + rm.slots ≤ R.slots) {pc pc' : Nat} {Ls : Array Slot} (argsL rest : List Value) {st : List Value} (hsize : Ls.size = c.maxLocals) (hM : own_Met l y bytes maxL ret rm Z argsL.toArray h Q)
    {ps : List FieldType} {r : Option FieldType} (hpd : parseMethodDescriptor y.desc = some ⟨ps, r⟩) (hlen : argsL.length = ps.length) (hst : st = argsL.reverse ++ rest) (hW : (rest.map fun v => v.category).sum = W) (hd : decode c.code pc = .ok (.invokestatic index, 3)) (hp : pc + 3 = pc') (k : ∀ v T' L, Stand p l e R s m args below meth c T' (locs ++ L) (cells + rm.cells) (slots + rm.slots) → Q v T'.heap L → own_Ends p e below Φ (T'.setTop (mkF m pc' Ls (v.toList ++ rest)))) : own_Ends p e below Φ (T.setTop (mkF m pc Ls st)) := by
  subst hp
  obtain ⟨v, _, ⟨T', L', k', n'⟩, -, X', ⟨Lc, hQ, e1, e2, e3⟩, st'⟩ := Jvm.LawKit.callS X hx (y := y) hown (mvT hZ w1) (mvT hZ w2) (mvT hZ w3) (mvT hZ w4) hy (backOf (W := W) (hM []) hZ w4 w3 hf hl) (g := mkF m pc Ls st) rfl hsize (argsL := argsL) (rest := rest) (lenOf hpd hlen) hst (by rw [← hW]; show 2 * 0 + _ ≤ _; omega) hd (fun _ _ => ⟨rfl, eT, hc, hs⟩)
  dsimp only [Pt.U, Pt.locs, Pt.cells, Pt.slots] at X' e1 e2 e3 st' hQ
  subst e1 e2 e3
  exact own_via st' (k v T' Lc X' hQ)
theorem own_special (X : Stand p l e R s m args below meth c T locs cells slots) (hx : p.tables.exec = Jvm.exec) (hZ : Z.Warmed39 s.vm) {own : String} {index : Nat} {y : MethodName} {bytes : ByteArray} {maxL : Nat} {rm : Room} {Q : Option Value → Heap → List Loc → Prop} (hy1 : y.name = "<init>") (hown : s.vm.findClass own = some m.cls) (w1 : (Jvm.Cond.methodLink own index y).before a0 Z = true) (w2 : (Jvm.Cond.instanceMethod y).before a0 Z = true) (w3 : (Jvm.Cond.initialized y.cls).before a0 Z = true) (w4 : (Jvm.Cond.code y bytes maxL none).before a0 Z = true) (hy : y.cls ≠ "java/lang/invoke/MethodHandle" ∧ y.cls ≠ "java/lang/invoke/VarHandle") (eT : T.heap = h) (hf : rm.frames + 1 ≤ R.frames) {W : Nat} (hl : W + (maxL + 11) + rm.locals ≤ R.locals) (hc : cells + rm.cells ≤ R.cells) (hs : slots + rm.slots ≤ R.slots) {pc pc' : Nat} {Ls : Array Slot} (argsL rest : List Value) {st : List Value} (hsize : Ls.size = c.maxLocals) {a : Addr} (hM : own_Met l y bytes maxL none rm Z (.ref a :: argsL).toArray h Q)
    {ps : List FieldType} {r : Option FieldType} (hpd : parseMethodDescriptor y.desc = some ⟨ps, r⟩) (hlen : argsL.length = ps.length) (hst : st = argsL.reverse ++ .ref a :: rest) (hW : (rest.map fun v => v.category).sum = W) (hd : decode c.code pc = .ok (.invokespecial index, 3)) (hp : pc + 3 = pc') (k : ∀ v T' L, Stand p l e R s m args below meth c T' (locs ++ L) (cells + rm.cells) (slots + rm.slots) → Q v T'.heap L → own_Ends p e below Φ (T'.setTop (mkF m pc' Ls (v.toList ++ rest)))) : own_Ends p e below Φ (T.setTop (mkF m pc Ls st)) := by
  subst hp
  obtain ⟨v, _, ⟨T', L', k', n'⟩, -, X', ⟨Lc, hQ, e1, e2, e3⟩, st'⟩ := X.specialBack hx (y := y) hy1 hown (mvT hZ w1) (mvT hZ w2) (mvT hZ w4) hy (backOf (W := W) (hM []) hZ w4 w3 hf hl) (g := mkF m pc Ls st) rfl hsize (Steps.refl _) (a := a) (argsL := argsL) (rest := rest) (lenOf hpd hlen) hst (by rw [← hW]; show 2 * 0 + _ ≤ _; omega) hd (fun _ _ => ⟨rfl, eT, hc, hs⟩)
  dsimp only [Pt.U, Pt.locs, Pt.cells, Pt.slots] at X' e1 e2 e3 st' hQ
  subst e1 e2 e3
  exact own_thru st' (k v T' Lc X' hQ)
theorem own_virtual (X : Stand p l e R s m args below meth c T locs cells slots) (hx : p.tables.exec = Jvm.exec) (hZ : Z.Warmed39 s.vm) {own C : String} {index : Nat} {y z : MethodName} {bytes : ByteArray} {maxL : Nat} {ret : Option FieldType} {rm : Room} {Q : Option Value → Heap → List Loc → Prop} (hown : s.vm.findClass own = some m.cls) (w1 : (Jvm.Cond.methodLink own index y).before a0 Z = true) (w2 : (Jvm.Cond.declares y).before a0 Z = true) (hnf : NotFace s y) (w3 : (Jvm.Cond.selects C y z).before a0 Z = true) (w4 : (Jvm.Cond.instanceMethod z).before a0 Z = true) (w5 : (Jvm.Cond.initialized z.cls).before a0 Z = true) (w6 : (Jvm.Cond.code z bytes maxL ret).before a0 Z = true) (hy : y.cls ≠ "java/lang/invoke/MethodHandle" ∧ y.cls ≠ "java/lang/invoke/VarHandle") (eT : T.heap = h) (hf : rm.frames + 1 ≤ R.frames) {W : Nat} (hl : W + (maxL + 11) + rm.locals ≤ R.locals) (hc : cells + rm.cells ≤ R.cells) (hs : slots + rm.slots ≤ R.slots) {pc pc' : Nat} {Ls : Array Slot} (argsL rest : List Value) {st : List Value} (hsize : Ls.size = c.maxLocals) {a : Addr} (E : Exa Z h a C) (hM : own_Met l z bytes maxL ret rm Z (.ref a :: argsL).toArray h Q)
    {ps : List FieldType} {r : Option FieldType} (hpd : parseMethodDescriptor y.desc = some ⟨ps, r⟩) (hlen : argsL.length = ps.length) (hst : st = argsL.reverse ++ .ref a :: rest) (hW : (rest.map fun v => v.category).sum = W) (hd : decode c.code pc = .ok (.invokevirtual index, 3)) (hp : pc + 3 = pc') (k : ∀ v T' L, Stand p l e R s m args below meth c T' (locs ++ L) (cells + rm.cells) (slots + rm.slots) → Q v T'.heap L → own_Ends p e below Φ (T'.setTop (mkF m pc' Ls (v.toList ++ rest)))) : own_Ends p e below Φ (T.setTop (mkF m pc Ls st)) := by
  subst hp
  obtain ⟨cq, kq, q1, q2, q3⟩ := isOf hZ eT E
  obtain ⟨v, _, ⟨T', L', k', n'⟩, -, X', ⟨Lc, hQ, e1, e2, e3⟩, st'⟩ := X.virtualBack hx (y := y) (z := z) hown (mvT hZ w1) (mvT hZ w2) hnf (mvT hZ w3) (mvT hZ w4) hy (backOf (W := W) (hM []) hZ w6 w5 hf hl) q1 q3 (g := mkF m pc Ls st) rfl hsize (Steps.refl _) (argsL := argsL) (rest := rest) (lenOf hpd hlen) hst (by rw [← hW]; show 2 * 0 + _ ≤ _; omega) hd (fun _ _ => ⟨rfl, eT, hc, hs⟩)
  dsimp only [Pt.U, Pt.locs, Pt.cells, Pt.slots] at X' e1 e2 e3 st' hQ
  subst e1 e2 e3
  exact own_thru st' (k v T' Lc X' hQ)
theorem own_private (X : Stand p l e R s m args below meth c T locs cells slots) (hx : p.tables.exec = Jvm.exec) (hZ : Z.Warmed39 s.vm) {own : String} {index : Nat} {y y' : MethodName} {bytes : ByteArray} {maxL : Nat} {ret : Option FieldType} {rm : Room} {Q : Option Value → Heap → List Loc → Prop} (hown : s.vm.findClass own = some m.cls) (w1 : (Jvm.Cond.methodLink own index y).before a0 Z = true) (hnf : ∀ c k, s.vm.findClass y.cls = some c → s.vm.classes[c]? = some k → k.isInterface = false) (w4 : (Jvm.Cond.instanceMethod y).before a0 Z = true) (wp : (Jvm.Cond.privateMethod y).before a0 Z = true) (w5 : (Jvm.Cond.initialized y.cls).before a0 Z = true) (w6 : (Jvm.Cond.code y bytes maxL ret).before a0 Z = true) (hy : y.cls ≠ "java/lang/invoke/MethodHandle" ∧ y.cls ≠ "java/lang/invoke/VarHandle") (eT : T.heap = h) (hf : rm.frames + 1 ≤ R.frames) {W : Nat} (hl : W + (maxL + 11) + rm.locals ≤ R.locals) (hc : cells + rm.cells ≤ R.cells) (hs : slots + rm.slots ≤ R.slots) {pc pc' : Nat} {Ls : Array Slot} (argsL rest : List Value) {st : List Value} (hsize : Ls.size = c.maxLocals) {a : Addr} {C : String} (E : Exa Z h a C) (hM : own_Met l y bytes maxL ret rm Z (.ref a :: argsL).toArray h Q)
    {ps : List FieldType} {r : Option FieldType} (hpd : parseMethodDescriptor y.desc = some ⟨ps, r⟩) (hlen : argsL.length = ps.length) (hst : st = argsL.reverse ++ .ref a :: rest) (hW : (rest.map fun v => v.category).sum = W) (hd : decode c.code pc = .ok (.invokevirtual index, 3)) (hp : pc + 3 = pc') (k : ∀ v T' L, Stand p l e R s m args below meth c T' (locs ++ L) (cells + rm.cells) (slots + rm.slots) → Q v T'.heap L → own_Ends p e below Φ (T'.setTop (mkF m pc' Ls (v.toList ++ rest)))) : own_Ends p e below Φ (T.setTop (mkF m pc Ls st)) := by
  subst hp
  obtain ⟨cl, q1, q2⟩ := E.cell
  have hpr := Cond.privateMethod_at (mvP hZ wp (args := args))
  have hin : (Jvm.Cond.instanceMethod y).before args s = true := mvT hZ w4
  obtain ⟨mk, methM, hnamed, hmethM, -, -⟩ := Cond.instanceMethod_spec hin
  obtain ⟨kk, hkk, -⟩ := className_of_methodNamed hnamed
  have hfc := findClass_of_methodNamed hnamed
  have hsel := selects_self_of_private (args := args) hfc hkk (hnf _ _ hfc hkk) hpr hin hy
  obtain ⟨v, _, ⟨T', L', k', n'⟩, -, X', ⟨Lc, hQ, e1, e2, e3⟩, st'⟩ := X.privateBack hx (y := y) hown (mvT hZ w1) hin hsel hpr (mvT hZ w6) hy (backOf (W := W) (hM []) hZ w6 w5 hf hl) (g := mkF m pc Ls st) rfl hsize (Steps.refl _) (a := a) (by rw [eT]; exact q1) q2 (argsL := argsL) (rest := rest) (lenOf hpd hlen) hst (by rw [← hW]; show 2 * 0 + _ ≤ _; omega) hd (fun _ _ => ⟨rfl, eT, hc, hs⟩)
  dsimp only [Pt.U, Pt.locs, Pt.cells, Pt.slots] at X' e1 e2 e3 st' hQ
  subst e1 e2 e3
  exact own_thru st' (k v T' Lc X' hQ)
theorem own_nf (hZ : Z.Warmed39 s.vm) {C : String} {y z : MethodName} (w : (Jvm.Cond.selects C y z).before a0 Z = true) : ∀ c k, s.vm.findClass z.cls = some c → s.vm.classes[c]? = some k → k.isInterface = false := fun c k h1 h2 => by
  obtain ⟨c2, r2, m2, -, -, q3, -, kP, hkP, hkPi⟩ := Cond.selects_spec (show (Jvm.Cond.selects C y z).before #[] s = true from mvT hZ w)
  have := findClass_of_methodNamed q3
  cases this.symm.trans h1
  cases hkP.symm.trans h2
  exact hkPi
theorem own_leave (X : Stand p l e R s m args below meth c T locs cells slots) (hlocks : meth.locks = false) {v : Option Value} (hv : meth.sig.returnType = none → v = none) {Q : Option Value → Heap → List Loc → Prop} {kc ks : Nat} (hc : cells ≤ kc) (hs : slots ≤ ks) (hq : Q v T.heap locs) {t : State}
    (step : ∀ fs, (∀ (f : JFrame) (acts : List Action), f.method = m → f.locked = none → f.entered = [] → (doReturn e (T.setTop f) acts v).1 = T.setFrames fs) → Steps p.tables e below t (T.setFrames fs)) : own_Ends p e below (own_Post s Q kc ks) t := by
  obtain ⟨fs, hr, hrun, hended, hW, hsame⟩ := X.leave (v := v) hv hlocks
  exact ⟨_, _, step fs hr, hrun, hended, v, locs, rfl, hq, ⟨_, rfl⟩, hW, hsame.mono hc hs⟩
theorem own_retN (X : Stand p l e R s m args below meth c T locs cells slots) (hx : p.tables.exec = Jvm.exec) (hlocks : meth.locks = false) {t : FieldType} (hret : meth.sig.returnType = some t) (ht : t = .boolean ∨ t = .byte ∨ t = .char ∨ t = .short) {pc : Nat} {Ls : Array Slot} {z : Int32} {rest : List Value} (hd : decode c.code pc = .ok (.ireturn, 1)) {Q : Option Value → Heap → List Loc → Prop} {kc ks : Nat} (hc : cells ≤ kc) (hs : slots ≤ ks) (hn : nar t z = z) (hq : Q (some (.int z)) T.heap locs) :
    own_Ends p e below (own_Post s Q kc ks) (T.setTop (mkF m pc Ls (.int z :: rest))) :=
  own_leave X hlocks (v := some (.int (nar t z))) (fun h => by rw [hret] at h; cases h) hc hs (by rw [hn]; exact hq) (fun fs hr => retN X hx hret ht hd hr)
theorem own_retI (X : Stand p l e R s m args below meth c T locs cells slots) (hx : p.tables.exec = Jvm.exec) (hlocks : meth.locks = false) (hret : meth.sig.returnType = some .int) {pc : Nat} {Ls : Array Slot} {z : Int32} {rest : List Value} (hd : decode c.code pc = .ok (.ireturn, 1)) {Q : Option Value → Heap → List Loc → Prop} {kc ks : Nat} (hc : cells ≤ kc) (hs : slots ≤ ks) (hq : Q (some (.int z)) T.heap locs) :
    own_Ends p e below (own_Post s Q kc ks) (T.setTop (mkF m pc Ls (.int z :: rest))) :=
  own_leave X hlocks (v := some (.int z)) (fun h => by rw [hret] at h; cases h) hc hs hq (fun fs hr => retOut X hx hret (w := .int z) rfl (Or.inl ⟨rfl, Or.inl rfl, z, rfl⟩) hd hr)
theorem own_retJ (X : Stand p l e R s m args below meth c T locs cells slots) (hx : p.tables.exec = Jvm.exec) (hlocks : meth.locks = false) (hret : meth.sig.returnType = some .long) {pc : Nat} {Ls : Array Slot} {z : Int64} {rest : List Value} (hd : decode c.code pc = .ok (.lreturn, 1)) {Q : Option Value → Heap → List Loc → Prop} {kc ks : Nat} (hc : cells ≤ kc) (hs : slots ≤ ks) (hq : Q (some (.long z)) T.heap locs) :
    own_Ends p e below (own_Post s Q kc ks) (T.setTop (mkF m pc Ls (.long z :: rest))) :=
  own_leave X hlocks (v := some (.long z)) (fun h => by rw [hret] at h; cases h) hc hs hq (fun fs hr => retOut X hx hret (w := .long z) rfl (Or.inr (Or.inl ⟨rfl, rfl, z, rfl⟩)) hd hr)
theorem own_narR {t : FieldType} (ht : t.isReference = true) {w : Value} (hw : w.isRef = true) : narrow t w = w := by cases t <;> first | (cases w <;> first | rfl | cases hw) | cases ht
theorem own_retA (X : Stand p l e R s m args below meth c T locs cells slots) (hx : p.tables.exec = Jvm.exec) (hlocks : meth.locks = false) {t : FieldType} (hret : meth.sig.returnType = some t) (ht : t.isReference = true) {pc : Nat} {Ls : Array Slot} {w : Value} (hw : w.isRef = true) {rest : List Value} (hd : decode c.code pc = .ok (.areturn, 1)) {Q : Option Value → Heap → List Loc → Prop} {kc ks : Nat} (hc : cells ≤ kc) (hs : slots ≤ ks) (hq : Q (some w) T.heap locs) :
    own_Ends p e below (own_Post s Q kc ks) (T.setTop (mkF m pc Ls (w :: rest))) :=
  own_leave X hlocks (v := some w) (fun h => by rw [hret] at h; cases h) hc hs hq (fun fs hr => retOut X hx hret (own_narR ht hw) (Or.inr (Or.inr (Or.inr (Or.inr ⟨rfl, ht, hw⟩)))) hd hr)
theorem own_ret (X : Stand p l e R s m args below meth c T locs cells slots) (hx : p.tables.exec = Jvm.exec) (hlocks : meth.locks = false) (hret : meth.sig.returnType = none) {pc : Nat} {Ls : Array Slot} (hd : decode c.code pc = .ok (.return_, 1)) {Q : Option Value → Heap → List Loc → Prop} {kc ks : Nat} (hc : cells ≤ kc) (hs : slots ≤ ks) (hq : Q none T.heap locs) :
    own_Ends p e below (own_Post s Q kc ks) (T.setTop (mkF m pc Ls [])) :=
  own_leave X hlocks (v := none) (fun _ => rfl) hc hs hq (fun fs hr => X.returnOut hx hret hd hr)
end OwnKit
theorem own_pd0 : parseMethodDescriptor "()V" = some ⟨[], none⟩ := by decide +kernel
theorem own_pd1 : parseMethodDescriptor "(II)Z" = some ⟨[.int, .int], some .boolean⟩ := by decide +kernel
theorem own_pd2 : parseMethodDescriptor "(IIII)Z" = some ⟨[.int, .int, .int, .int], some .boolean⟩ := by decide +kernel
theorem own_d_prog_66_method_1_code_0 : decode prog_66_method_1_code 0 = .ok (.aload_n 0, 1) := by decide +kernel
theorem own_d_prog_66_method_1_code_1 : decode prog_66_method_1_code 1 = .ok (.invokespecial 3, 3) := by decide +kernel
theorem own_d_prog_66_method_1_code_4 : decode prog_66_method_1_code 4 = .ok (.aload_n 0, 1) := by decide +kernel
theorem own_d_prog_66_method_1_code_5 : decode prog_66_method_1_code 5 = .ok (.getstatic 9, 3) := by decide +kernel
theorem own_d_prog_66_method_1_code_8 : decode prog_66_method_1_code 8 = .ok (.putfield 15, 3) := by decide +kernel
theorem own_d_prog_66_method_1_code_11 : decode prog_66_method_1_code 11 = .ok (.aload_n 0, 1) := by decide +kernel
theorem own_d_prog_66_method_1_code_12 : decode prog_66_method_1_code 12 = .ok (.iconst 1, 1) := by decide +kernel
theorem own_d_prog_66_method_1_code_13 : decode prog_66_method_1_code 13 = .ok (.putfield 20, 3) := by decide +kernel
theorem own_d_prog_66_method_1_code_16 : decode prog_66_method_1_code 16 = .ok (.aload_n 0, 1) := by decide +kernel
theorem own_d_prog_66_method_1_code_17 : decode prog_66_method_1_code 17 = .ok (.iconst 1, 1) := by decide +kernel
theorem own_d_prog_66_method_1_code_18 : decode prog_66_method_1_code 18 = .ok (.putfield 24, 3) := by decide +kernel
theorem own_d_prog_66_method_1_code_21 : decode prog_66_method_1_code 21 = .ok (.aload_n 0, 1) := by decide +kernel
theorem own_d_prog_66_method_1_code_22 : decode prog_66_method_1_code 22 = .ok (.iconst 1, 1) := by decide +kernel
theorem own_d_prog_66_method_1_code_23 : decode prog_66_method_1_code 23 = .ok (.putfield 28, 3) := by decide +kernel
theorem own_d_prog_66_method_1_code_26 : decode prog_66_method_1_code 26 = .ok (.aload_n 0, 1) := by decide +kernel
theorem own_d_prog_66_method_1_code_27 : decode prog_66_method_1_code 27 = .ok (.ldc 31, 2) := by decide +kernel
theorem own_d_prog_66_method_1_code_29 : decode prog_66_method_1_code 29 = .ok (.putfield 32, 3) := by decide +kernel
theorem own_d_prog_66_method_1_code_32 : decode prog_66_method_1_code 32 = .ok (.return_, 1) := by decide +kernel
theorem own_pn_com_example_ledgerleaf_ledgerleaf_MarkupWatch : plainName "com/example/ledgerleaf/ledgerleaf/MarkupWatch" = true := by first | (simp [plainName, overriddenIn]; done) | decide +kernel
theorem own_d_prog_66_method_11_code_0 : decode prog_66_method_11_code 0 = .ok (.iload_n 1, 1) := by decide +kernel
theorem own_d_prog_66_method_11_code_1 : decode prog_66_method_11_code 1 = .ok (.aload_n 0, 1) := by decide +kernel
theorem own_d_prog_66_method_11_code_2 : decode prog_66_method_11_code 2 = .ok (.getfield 113, 3) := by decide +kernel
theorem own_d_prog_66_method_11_code_5 : decode prog_66_method_11_code 5 = .ok (.if_icmp .gt 19, 3) := by decide +kernel
theorem own_d_prog_66_method_11_code_24 : decode prog_66_method_11_code 24 = .ok (.iconst 1, 1) := by decide +kernel
theorem own_d_prog_66_method_11_code_25 : decode prog_66_method_11_code 25 = .ok (.goto 4, 3) := by decide +kernel
theorem own_d_prog_66_method_11_code_29 : decode prog_66_method_11_code 29 = .ok (.ireturn, 1) := by decide +kernel
theorem own_d_prog_66_method_11_code_8 : decode prog_66_method_11_code 8 = .ok (.iload_n 1, 1) := by decide +kernel
theorem own_d_prog_66_method_11_code_9 : decode prog_66_method_11_code 9 = .ok (.aload_n 0, 1) := by decide +kernel
theorem own_d_prog_66_method_11_code_10 : decode prog_66_method_11_code 10 = .ok (.getfield 113, 3) := by decide +kernel
theorem own_d_prog_66_method_11_code_13 : decode prog_66_method_11_code 13 = .ok (.if_icmp .ne 15, 3) := by decide +kernel
theorem own_d_prog_66_method_11_code_28 : decode prog_66_method_11_code 28 = .ok (.iconst 0, 1) := by decide +kernel
theorem own_d_prog_66_method_11_code_16 : decode prog_66_method_11_code 16 = .ok (.iload_n 2, 1) := by decide +kernel
theorem own_d_prog_66_method_11_code_17 : decode prog_66_method_11_code 17 = .ok (.aload_n 0, 1) := by decide +kernel
theorem own_d_prog_66_method_11_code_18 : decode prog_66_method_11_code 18 = .ok (.getfield 116, 3) := by decide +kernel
theorem own_d_prog_66_method_11_code_21 : decode prog_66_method_11_code 21 = .ok (.if_icmp .lt 7, 3) := by decide +kernel
theorem own_d_method_2_code_0 : decode method_2_code 0 = .ok (.iload_n 0, 1) := by decide +kernel
theorem own_d_method_2_code_1 : decode method_2_code 1 = .ok (.iload_n 2, 1) := by decide +kernel
theorem own_d_method_2_code_2 : decode method_2_code 2 = .ok (.if_icmp .le 5, 3) := by decide +kernel
theorem own_d_method_2_code_7 : decode method_2_code 7 = .ok (.iload_n 0, 1) := by decide +kernel
theorem own_d_method_2_code_8 : decode method_2_code 8 = .ok (.iload_n 2, 1) := by decide +kernel
theorem own_d_method_2_code_9 : decode method_2_code 9 = .ok (.if_icmp .ge 5, 3) := by decide +kernel
theorem own_d_method_2_code_14 : decode method_2_code 14 = .ok (.iload_n 1, 1) := by decide +kernel
theorem own_d_method_2_code_15 : decode method_2_code 15 = .ok (.iload_n 3, 1) := by decide +kernel
theorem own_d_method_2_code_16 : decode method_2_code 16 = .ok (.if_icmp .lt 7, 3) := by decide +kernel
theorem own_d_method_2_code_23 : decode method_2_code 23 = .ok (.iconst 0, 1) := by decide +kernel
theorem own_d_method_2_code_24 : decode method_2_code 24 = .ok (.ireturn, 1) := by decide +kernel
theorem own_d_method_2_code_19 : decode method_2_code 19 = .ok (.iconst 1, 1) := by decide +kernel
theorem own_d_method_2_code_20 : decode method_2_code 20 = .ok (.goto 4, 3) := by decide +kernel
theorem own_d_method_2_code_12 : decode method_2_code 12 = .ok (.iconst 0, 1) := by decide +kernel
theorem own_d_method_2_code_13 : decode method_2_code 13 = .ok (.ireturn, 1) := by decide +kernel
theorem own_d_method_2_code_5 : decode method_2_code 5 = .ok (.iconst 1, 1) := by decide +kernel
theorem own_d_method_2_code_6 : decode method_2_code 6 = .ok (.ireturn, 1) := by decide +kernel
theorem own_pn_com_example_ledgerleaf_ledgerleaf_MarkupWatchIsAtOrAfterDoctypePinLaw : plainName "com/example/ledgerleaf/ledgerleaf/MarkupWatchIsAtOrAfterDoctypePinLaw" = true := by first | (simp [plainName, overriddenIn]; done) | decide +kernel
def own_at (l c : Int32) : Int32 := if (0 : Int32) < l then 1 else if l = (0 : Int32) then (if c < (0 : Int32) then 0 else 1) else 0
def own_lex (l c a b : Int32) : Int32 := if a < l then 1 else if l < a then 0 else if c < b then 0 else 1
theorem own_at_lex (l c : Int32) : own_at l c = own_lex l c 0 0 := by
  unfold own_at own_lex
  by_cases h1 : (0 : Int32) < l
  · simp [h1]
  · by_cases h2 : l < (0 : Int32)
    · have h3 : ¬ l = 0 := fun q => by subst q; exact absurd h2 (by decide)
      simp [h1, h2, h3]
    · have h3 : l = 0 := by
        have a1 := Int32.not_lt.mp h1; have a2 := Int32.not_lt.mp h2
        exact Int32.le_antisymm a1 a2
      simp [h3]
set_option maxRecDepth 65536 in
set_option maxHeartbeats 40000000 in
theorem own_init (l : Launch) (Z : State) (a0 : Array Value) (hw : ∀ d ∈ tables_1, d.before a0 Z = true) (a1 tx : Addr) (h0 : Heap) (n0 : Nat) (O0 : Old Z n0 h0) (g_a1 : n0 ≤ a1) (S0 : Sta Z Z.heap "com/example/ledgerleaf/ledgerleaf/MarkupWatch$State" "TEXT" "Lcom/example/ledgerleaf/ledgerleaf/MarkupWatch$State;" (.ref tx)) (E0 : Exa Z h0 a1 "com/example/ledgerleaf/ledgerleaf/MarkupWatch") (D0 : (∀ {O nm d : String} {ty : FieldType}, Laid Z a0 "com/example/ledgerleaf/ledgerleaf/MarkupWatch" O nm d → parseFieldDescriptor d = some ty → Fld Z h0 a1 O nm d (defaultValue ty))) :
    own_Met l (⟨"com/example/ledgerleaf/ledgerleaf/MarkupWatch", "<init>", "()V"⟩ : MethodName) prog_66_method_1_code 1 none ({ frames := 1, cells := 0, slots := 0, locals := 12 } : Room) Z #[(.ref a1)] h0 (fun v h L => v = none ∧ Fr n0 L ∧ Keep h0 h [a1] ∧ Exa Z h a1 "com/example/ledgerleaf/ledgerleaf/MarkupWatch" ∧ Fld Z h a1 "com/example/ledgerleaf/ledgerleaf/MarkupWatch" "m_nMarkupLine" "I" (.int (0 : Int32)) ∧ Fld Z h a1 "com/example/ledgerleaf/ledgerleaf/MarkupWatch" "m_nMarkupColumn" "I" (.int (0 : Int32))) := by
  refine own_met (plainFor_of_name own_pn_com_example_ledgerleaf_ledgerleaf_MarkupWatch) ?_
  intro p e s m below meth c T0 hx hby hml hZ hown hnm hret hlocks X0 e0 hh0
  have ef : entryFrame m #[(.ref a1)] 1 = mkF m 0 #[.val (.ref a1)] [] := by first | rfl | (simp [entryFrame, mkF, argsToLocals, Value.category]; done)
  refine own_entry ef ?_
  have N0 := Fr.nil n0
  have K0 := Keep.refl h0 [a1]
  have Fa1_m_eState : Fld Z h0 a1 "com/example/ledgerleaf/ledgerleaf/MarkupWatch" "m_eState" "Lcom/example/ledgerleaf/ledgerleaf/MarkupWatch$State;" .null := D0 (Or.inl (hw _ (List.mem_of_getElem? (i := 13) rfl))) (ty := (.object "com/example/ledgerleaf/ledgerleaf/MarkupWatch$State")) (by decide)
  have Fa1_m_bProlog : Fld Z h0 a1 "com/example/ledgerleaf/ledgerleaf/MarkupWatch" "m_bProlog" "Z" (.int (0 : Int32)) := D0 (Or.inl (hw _ (List.mem_of_getElem? (i := 15) rfl))) (ty := .boolean) (by decide)
  have Fa1_m_nLine : Fld Z h0 a1 "com/example/ledgerleaf/ledgerleaf/MarkupWatch" "m_nLine" "I" (.int (0 : Int32)) := D0 (Or.inl (hw _ (List.mem_of_getElem? (i := 17) rfl))) (ty := .int) (by decide)
  have Fa1_m_nColumn : Fld Z h0 a1 "com/example/ledgerleaf/ledgerleaf/MarkupWatch" "m_nColumn" "I" (.int (0 : Int32)) := D0 (Or.inl (hw _ (List.mem_of_getElem? (i := 19) rfl))) (ty := .int) (by decide)
  have Fa1_m_nLimit : Fld Z h0 a1 "com/example/ledgerleaf/ledgerleaf/MarkupWatch" "m_nLimit" "I" (.int (0 : Int32)) := D0 (Or.inl (hw _ (List.mem_of_getElem? (i := 22) rfl))) (ty := .int) (by decide)
  have Fa1_m_nMarkupLine : Fld Z h0 a1 "com/example/ledgerleaf/ledgerleaf/MarkupWatch" "m_nMarkupLine" "I" (.int (0 : Int32)) := D0 (Or.inl (hw _ (List.mem_of_getElem? (i := 29) rfl))) (ty := .int) (by decide)
  have Fa1_m_nMarkupColumn : Fld Z h0 a1 "com/example/ledgerleaf/ledgerleaf/MarkupWatch" "m_nMarkupColumn" "I" (.int (0 : Int32)) := D0 (Or.inl (hw _ (List.mem_of_getElem? (i := 31) rfl))) (ty := .int) (by decide)
  refine own_aloadN X0 hx (hb hby own_d_prog_66_method_1_code_0) rfl rfl rfl ?_
  refine own_initO X0 hx hZ hown (hw _ (List.mem_of_getElem? (i := 6) rfl)) (hw _ (List.mem_of_getElem? (i := 7) rfl)) (hw _ (List.mem_of_getElem? (i := 8) rfl)) e0 (by rw [hml]; rfl) (hb hby own_d_prog_66_method_1_code_1) 0 rfl (by decide) (by decide) rfl ?_
  intro T1 X1 e1
  refine own_aloadN X1 hx (hb hby own_d_prog_66_method_1_code_4) rfl rfl rfl ?_
  refine own_getS X1 hx hZ hown (host := "") (Or.inl (hw _ (List.mem_of_getElem? (i := 9) rfl))) Via.refl e1 (S0.ext O0.2) (hb hby own_d_prog_66_method_1_code_5) rfl ?_
  intro T2 X2 e2
  refine own_putF X2 hx hZ hown (host := "") (Or.inl (hw _ (List.mem_of_getElem? (i := 12) rfl))) Via.refl e2 Fa1_m_eState E0 (Or.inl (hw _ (List.mem_of_getElem? (i := 13) rfl))) (hw _ (List.mem_of_getElem? (i := 1) rfl)) (ty := (.object "com/example/ledgerleaf/ledgerleaf/MarkupWatch$State")) (by decide) rfl rfl N0 g_a1 (hb hby own_d_prog_66_method_1_code_8) rfl ?_
  intro T3 h3 X3 e3 W3 N3
  have K4 := K0.wr W3 (Or.inl (List.mem_of_getElem? (i := 0) rfl))
  have f5 := Fa1_m_eState.same W3
  refine own_aloadN X3 hx (hb hby own_d_prog_66_method_1_code_11) rfl rfl rfl ?_
  refine own_iconst X3 hx (1 : Int32) (hb hby own_d_prog_66_method_1_code_12) (by decide) rfl ?_
  have f6 := (Fa1_m_bProlog.other W3 (Or.inr (slot_ne (Or.inl (hw _ (List.mem_of_getElem? (i := 15) rfl))) (Or.inl (hw _ (List.mem_of_getElem? (i := 13) rfl))) (by decide) (t := .boolean) (t' := (.object "com/example/ledgerleaf/ledgerleaf/MarkupWatch$State")) (by decide) (by decide))))
  have f7 := (E0.wr W3)
  refine own_putFN X3 hx hZ hown (hw _ (List.mem_of_getElem? (i := 14) rfl)) Via.refl e3 (.int (1 : Int32)) f6 f7 (Or.inl (hw _ (List.mem_of_getElem? (i := 15) rfl))) (hw _ (List.mem_of_getElem? (i := 1) rfl)) (ty := .boolean) (by decide) rfl rfl N3 g_a1 (hb hby own_d_prog_66_method_1_code_13) rfl ?_
  intro T8 h8 X8 e8 W8 N8
  have K9 := K4.wr W8 (Or.inl (List.mem_of_getElem? (i := 0) rfl))
  have f10 := f6.same W8
  refine own_aloadN X8 hx (hb hby own_d_prog_66_method_1_code_16) rfl rfl rfl ?_
  refine own_iconst X8 hx (1 : Int32) (hb hby own_d_prog_66_method_1_code_17) (by decide) rfl ?_
  have f11 := ((Fa1_m_nLine.other W3 (Or.inr (slot_ne (Or.inl (hw _ (List.mem_of_getElem? (i := 17) rfl))) (Or.inl (hw _ (List.mem_of_getElem? (i := 13) rfl))) (by decide) (t := .int) (t' := (.object "com/example/ledgerleaf/ledgerleaf/MarkupWatch$State")) (by decide) (by decide)))).other W8 (Or.inr (slot_ne (Or.inl (hw _ (List.mem_of_getElem? (i := 17) rfl))) (Or.inl (hw _ (List.mem_of_getElem? (i := 15) rfl))) (by decide) (t := .int) (t' := .boolean) (by decide) (by decide))))
  have f12 := (f7.wr W8)
  refine own_putF X8 hx hZ hown (host := "") (Or.inl (hw _ (List.mem_of_getElem? (i := 16) rfl))) Via.refl e8 f11 f12 (Or.inl (hw _ (List.mem_of_getElem? (i := 17) rfl))) (hw _ (List.mem_of_getElem? (i := 1) rfl)) (ty := .int) (by decide) rfl rfl N8 g_a1 (hb hby own_d_prog_66_method_1_code_18) rfl ?_
  intro T13 h13 X13 e13 W13 N13
  have K14 := K9.wr W13 (Or.inl (List.mem_of_getElem? (i := 0) rfl))
  have f15 := f11.same W13
  refine own_aloadN X13 hx (hb hby own_d_prog_66_method_1_code_21) rfl rfl rfl ?_
  refine own_iconst X13 hx (1 : Int32) (hb hby own_d_prog_66_method_1_code_22) (by decide) rfl ?_
  have f16 := (((Fa1_m_nColumn.other W3 (Or.inr (slot_ne (Or.inl (hw _ (List.mem_of_getElem? (i := 19) rfl))) (Or.inl (hw _ (List.mem_of_getElem? (i := 13) rfl))) (by decide) (t := .int) (t' := (.object "com/example/ledgerleaf/ledgerleaf/MarkupWatch$State")) (by decide) (by decide)))).other W8 (Or.inr (slot_ne (Or.inl (hw _ (List.mem_of_getElem? (i := 19) rfl))) (Or.inl (hw _ (List.mem_of_getElem? (i := 15) rfl))) (by decide) (t := .int) (t' := .boolean) (by decide) (by decide)))).other W13 (Or.inr (slot_ne (Or.inl (hw _ (List.mem_of_getElem? (i := 19) rfl))) (Or.inl (hw _ (List.mem_of_getElem? (i := 17) rfl))) (by decide) (t := .int) (t' := .int) (by decide) (by decide))))
  have f17 := (f12.wr W13)
  refine own_putF X13 hx hZ hown (host := "") (Or.inl (hw _ (List.mem_of_getElem? (i := 18) rfl))) Via.refl e13 f16 f17 (Or.inl (hw _ (List.mem_of_getElem? (i := 19) rfl))) (hw _ (List.mem_of_getElem? (i := 1) rfl)) (ty := .int) (by decide) rfl rfl N13 g_a1 (hb hby own_d_prog_66_method_1_code_23) rfl ?_
  intro T18 h18 X18 e18 W18 N18
  have K19 := K14.wr W18 (Or.inl (List.mem_of_getElem? (i := 0) rfl))
  have f20 := f16.same W18
  refine own_aloadN X18 hx (hb hby own_d_prog_66_method_1_code_26) rfl rfl rfl ?_
  refine own_ldcInt X18 hx hZ hown (hw _ (List.mem_of_getElem? (i := 20) rfl)) (hb hby own_d_prog_66_method_1_code_27) rfl ?_
  have f21 := ((((Fa1_m_nLimit.other W3 (Or.inr (slot_ne (Or.inl (hw _ (List.mem_of_getElem? (i := 22) rfl))) (Or.inl (hw _ (List.mem_of_getElem? (i := 13) rfl))) (by decide) (t := .int) (t' := (.object "com/example/ledgerleaf/ledgerleaf/MarkupWatch$State")) (by decide) (by decide)))).other W8 (Or.inr (slot_ne (Or.inl (hw _ (List.mem_of_getElem? (i := 22) rfl))) (Or.inl (hw _ (List.mem_of_getElem? (i := 15) rfl))) (by decide) (t := .int) (t' := .boolean) (by decide) (by decide)))).other W13 (Or.inr (slot_ne (Or.inl (hw _ (List.mem_of_getElem? (i := 22) rfl))) (Or.inl (hw _ (List.mem_of_getElem? (i := 17) rfl))) (by decide) (t := .int) (t' := .int) (by decide) (by decide)))).other W18 (Or.inr (slot_ne (Or.inl (hw _ (List.mem_of_getElem? (i := 22) rfl))) (Or.inl (hw _ (List.mem_of_getElem? (i := 19) rfl))) (by decide) (t := .int) (t' := .int) (by decide) (by decide))))
  have f22 := (f17.wr W18)
  refine own_putF X18 hx hZ hown (host := "") (Or.inl (hw _ (List.mem_of_getElem? (i := 21) rfl))) Via.refl e18 f21 f22 (Or.inl (hw _ (List.mem_of_getElem? (i := 22) rfl))) (hw _ (List.mem_of_getElem? (i := 1) rfl)) (ty := .int) (by decide) rfl rfl N18 g_a1 (hb hby own_d_prog_66_method_1_code_29) rfl ?_
  intro T23 h23 X23 e23 W23 N23
  have K24 := K19.wr W23 (Or.inl (List.mem_of_getElem? (i := 0) rfl))
  have f25 := f21.same W23
  have f26 := (f22.wr W23)
  have f27 := (((((Fa1_m_nMarkupLine.other W3 (Or.inr (slot_ne (Or.inl (hw _ (List.mem_of_getElem? (i := 29) rfl))) (Or.inl (hw _ (List.mem_of_getElem? (i := 13) rfl))) (by decide) (t := .int) (t' := (.object "com/example/ledgerleaf/ledgerleaf/MarkupWatch$State")) (by decide) (by decide)))).other W8 (Or.inr (slot_ne (Or.inl (hw _ (List.mem_of_getElem? (i := 29) rfl))) (Or.inl (hw _ (List.mem_of_getElem? (i := 15) rfl))) (by decide) (t := .int) (t' := .boolean) (by decide) (by decide)))).other W13 (Or.inr (slot_ne (Or.inl (hw _ (List.mem_of_getElem? (i := 29) rfl))) (Or.inl (hw _ (List.mem_of_getElem? (i := 17) rfl))) (by decide) (t := .int) (t' := .int) (by decide) (by decide)))).other W18 (Or.inr (slot_ne (Or.inl (hw _ (List.mem_of_getElem? (i := 29) rfl))) (Or.inl (hw _ (List.mem_of_getElem? (i := 19) rfl))) (by decide) (t := .int) (t' := .int) (by decide) (by decide)))).other W23 (Or.inr (slot_ne (Or.inl (hw _ (List.mem_of_getElem? (i := 29) rfl))) (Or.inl (hw _ (List.mem_of_getElem? (i := 22) rfl))) (by decide) (t := .int) (t' := .int) (by decide) (by decide))))
  have f28 := (((((Fa1_m_nMarkupColumn.other W3 (Or.inr (slot_ne (Or.inl (hw _ (List.mem_of_getElem? (i := 31) rfl))) (Or.inl (hw _ (List.mem_of_getElem? (i := 13) rfl))) (by decide) (t := .int) (t' := (.object "com/example/ledgerleaf/ledgerleaf/MarkupWatch$State")) (by decide) (by decide)))).other W8 (Or.inr (slot_ne (Or.inl (hw _ (List.mem_of_getElem? (i := 31) rfl))) (Or.inl (hw _ (List.mem_of_getElem? (i := 15) rfl))) (by decide) (t := .int) (t' := .boolean) (by decide) (by decide)))).other W13 (Or.inr (slot_ne (Or.inl (hw _ (List.mem_of_getElem? (i := 31) rfl))) (Or.inl (hw _ (List.mem_of_getElem? (i := 17) rfl))) (by decide) (t := .int) (t' := .int) (by decide) (by decide)))).other W18 (Or.inr (slot_ne (Or.inl (hw _ (List.mem_of_getElem? (i := 31) rfl))) (Or.inl (hw _ (List.mem_of_getElem? (i := 19) rfl))) (by decide) (t := .int) (t' := .int) (by decide) (by decide)))).other W23 (Or.inr (slot_ne (Or.inl (hw _ (List.mem_of_getElem? (i := 31) rfl))) (Or.inl (hw _ (List.mem_of_getElem? (i := 22) rfl))) (by decide) (t := .int) (t' := .int) (by decide) (by decide))))
  exact own_ret X23 hx hlocks hret (hb hby own_d_prog_66_method_1_code_32) (by decide) (by decide) ⟨rfl, N23, by rw [e23]; exact ⟨K24, f26, f27, f28⟩⟩
set_option maxRecDepth 65536 in
set_option maxHeartbeats 40000000 in
theorem own_isat (l : Launch) (Z : State) (a0 : Array Value) (hw : ∀ d ∈ tables_1, d.before a0 Z = true) (a1 : Addr) (p2 p3 : Int32) (h0 : Heap) (n0 : Nat) (F1 : Fld Z h0 a1 "com/example/ledgerleaf/ledgerleaf/MarkupWatch" "m_nMarkupLine" "I" (.int (0 : Int32))) (F2 : Fld Z h0 a1 "com/example/ledgerleaf/ledgerleaf/MarkupWatch" "m_nMarkupColumn" "I" (.int (0 : Int32))) :
    own_Met l (⟨"com/example/ledgerleaf/ledgerleaf/MarkupWatch", "isAtOrAfterDoctype", "(II)Z"⟩ : MethodName) prog_66_method_11_code 3 (some .boolean) ({ frames := 0, cells := 0, slots := 0, locals := 0 } : Room) Z #[(.ref a1), (.int p2), (.int p3)] h0 (fun v h L => v = some (.int (own_at p2 p3)) ∧ Fr n0 L ∧ h = h0) := by
  refine own_met (plainFor_of_name own_pn_com_example_ledgerleaf_ledgerleaf_MarkupWatch) ?_
  intro p e s m below meth c T0 hx hby hml hZ hown hnm hret hlocks X0 e0 hh0
  have ef : entryFrame m #[(.ref a1), (.int p2), (.int p3)] 3 = mkF m 0 #[.val (.ref a1), .val (.int p2), .val (.int p3)] [] := by first | rfl | (simp [entryFrame, mkF, argsToLocals, Value.category]; done)
  refine own_entry ef ?_
  have N0 := Fr.nil n0
  refine own_iloadN X0 hx (hb hby own_d_prog_66_method_11_code_0) rfl rfl ?_
  refine own_aloadN X0 hx (hb hby own_d_prog_66_method_11_code_1) rfl rfl rfl ?_
  refine own_getF X0 hx hZ hown (host := "") (Or.inl (hw _ (List.mem_of_getElem? (i := 28) rfl))) Via.refl e0 F1 (hb hby own_d_prog_66_method_11_code_2) rfl ?_
  intro T1 X1 e1
  refine own_icmp_gt X1 hx (hb hby own_d_prog_66_method_11_code_5) (by decide) rfl rfl (fun hc5_2 => ?_) (fun hc5_2 => ?_)
  · refine own_iconst X1 hx (1 : Int32) (hb hby own_d_prog_66_method_11_code_24) (by decide) rfl ?_
    refine own_goto X1 hx (hb hby own_d_prog_66_method_11_code_25) (by decide) rfl ?_
    exact own_retN X1 hx hlocks hret (by simp) (hb hby own_d_prog_66_method_11_code_29) (by decide) (by decide) (by decide) ⟨congrArg (fun q => some (Value.int q)) (by simp [own_at, hc5_2]), N0, e1⟩
  · refine own_iloadN X1 hx (hb hby own_d_prog_66_method_11_code_8) rfl rfl ?_
    refine own_aloadN X1 hx (hb hby own_d_prog_66_method_11_code_9) rfl rfl rfl ?_
    refine own_getF X1 hx hZ hown (host := "") (Or.inl (hw _ (List.mem_of_getElem? (i := 28) rfl))) Via.refl e1 F1 (hb hby own_d_prog_66_method_11_code_10) rfl ?_
    intro T3 X3 e3
    refine own_icmp_ne X3 hx (hb hby own_d_prog_66_method_11_code_13) (by decide) rfl rfl (fun hc13_4 => ?_) (fun hc13_4 => ?_)
    · refine own_iconst X3 hx (0 : Int32) (hb hby own_d_prog_66_method_11_code_28) (by decide) rfl ?_
      exact own_retN X3 hx hlocks hret (by simp) (hb hby own_d_prog_66_method_11_code_29) (by decide) (by decide) (by decide) ⟨congrArg (fun q => some (Value.int q)) (by simp [own_at, hc5_2, hc13_4]), N0, e3⟩
    · refine own_iloadN X3 hx (hb hby own_d_prog_66_method_11_code_16) rfl rfl ?_
      refine own_aloadN X3 hx (hb hby own_d_prog_66_method_11_code_17) rfl rfl rfl ?_
      refine own_getF X3 hx hZ hown (host := "") (Or.inl (hw _ (List.mem_of_getElem? (i := 30) rfl))) Via.refl e3 F2 (hb hby own_d_prog_66_method_11_code_18) rfl ?_
      intro T5 X5 e5
      refine own_icmp_lt X5 hx (hb hby own_d_prog_66_method_11_code_21) (by decide) rfl rfl (fun hc21_6 => ?_) (fun hc21_6 => ?_)
      · refine own_iconst X5 hx (0 : Int32) (hb hby own_d_prog_66_method_11_code_28) (by decide) rfl ?_
        exact own_retN X5 hx hlocks hret (by simp) (hb hby own_d_prog_66_method_11_code_29) (by decide) (by decide) (by decide) ⟨congrArg (fun q => some (Value.int q)) (by simp [own_at, hc5_2, hc13_4, hc21_6]), N0, e5⟩
      · refine own_iconst X5 hx (1 : Int32) (hb hby own_d_prog_66_method_11_code_24) (by decide) rfl ?_
        refine own_goto X5 hx (hb hby own_d_prog_66_method_11_code_25) (by decide) rfl ?_
        exact own_retN X5 hx hlocks hret (by simp) (hb hby own_d_prog_66_method_11_code_29) (by decide) (by decide) (by decide) ⟨congrArg (fun q => some (Value.int q)) (by simp [own_at, hc5_2, hc13_4, hc21_6]), N0, e5⟩
set_option maxRecDepth 65536 in
set_option maxHeartbeats 40000000 in
theorem own_lexm (l : Launch) (Z : State) (a0 : Array Value) (hw : ∀ d ∈ tables_1, d.before a0 Z = true) (p1 p2 p3 p4 : Int32) (h0 : Heap) (n0 : Nat)  :
    own_Met l (⟨"com/example/ledgerleaf/ledgerleaf/MarkupWatchIsAtOrAfterDoctypePinLaw", "lexAtOrAfter", "(IIII)Z"⟩ : MethodName) method_2_code 4 (some .boolean) ({ frames := 0, cells := 0, slots := 0, locals := 0 } : Room) Z #[(.int p1), (.int p2), (.int p3), (.int p4)] h0 (fun v h L => v = some (.int (own_lex p1 p2 p3 p4)) ∧ Fr n0 L ∧ h = h0) := by
  refine own_met (plainFor_of_name own_pn_com_example_ledgerleaf_ledgerleaf_MarkupWatchIsAtOrAfterDoctypePinLaw) ?_
  intro p e s m below meth c T0 hx hby hml hZ hown hnm hret hlocks X0 e0 hh0
  have ef : entryFrame m #[(.int p1), (.int p2), (.int p3), (.int p4)] 4 = mkF m 0 #[.val (.int p1), .val (.int p2), .val (.int p3), .val (.int p4)] [] := by first | rfl | (simp [entryFrame, mkF, argsToLocals, Value.category]; done)
  refine own_entry ef ?_
  have N0 := Fr.nil n0
  refine own_iloadN X0 hx (hb hby own_d_method_2_code_0) rfl rfl ?_
  refine own_iloadN X0 hx (hb hby own_d_method_2_code_1) rfl rfl ?_
  refine own_icmp_le X0 hx (hb hby own_d_method_2_code_2) (by decide) rfl rfl (fun hc2_1 => ?_) (fun hc2_1 => ?_)
  · refine own_iloadN X0 hx (hb hby own_d_method_2_code_7) rfl rfl ?_
    refine own_iloadN X0 hx (hb hby own_d_method_2_code_8) rfl rfl ?_
    refine own_icmp_ge X0 hx (hb hby own_d_method_2_code_9) (by decide) rfl rfl (fun hc9_2 => ?_) (fun hc9_2 => ?_)
    · refine own_iloadN X0 hx (hb hby own_d_method_2_code_14) rfl rfl ?_
      refine own_iloadN X0 hx (hb hby own_d_method_2_code_15) rfl rfl ?_
      refine own_icmp_lt X0 hx (hb hby own_d_method_2_code_16) (by decide) rfl rfl (fun hc16_3 => ?_) (fun hc16_3 => ?_)
      · refine own_iconst X0 hx (0 : Int32) (hb hby own_d_method_2_code_23) (by decide) rfl ?_
        exact own_retN X0 hx hlocks hret (by simp) (hb hby own_d_method_2_code_24) (by decide) (by decide) (by decide) ⟨congrArg (fun q => some (Value.int q)) (by simp [own_lex, hc2_1, hc9_2, hc16_3]), N0, e0⟩
      · refine own_iconst X0 hx (1 : Int32) (hb hby own_d_method_2_code_19) (by decide) rfl ?_
        refine own_goto X0 hx (hb hby own_d_method_2_code_20) (by decide) rfl ?_
        exact own_retN X0 hx hlocks hret (by simp) (hb hby own_d_method_2_code_24) (by decide) (by decide) (by decide) ⟨congrArg (fun q => some (Value.int q)) (by simp [own_lex, hc2_1, hc9_2, hc16_3]), N0, e0⟩
    · refine own_iconst X0 hx (0 : Int32) (hb hby own_d_method_2_code_12) (by decide) rfl ?_
      exact own_retN X0 hx hlocks hret (by simp) (hb hby own_d_method_2_code_13) (by decide) (by decide) (by decide) ⟨congrArg (fun q => some (Value.int q)) (by simp [own_lex, hc2_1, hc9_2]), N0, e0⟩
  · refine own_iconst X0 hx (1 : Int32) (hb hby own_d_method_2_code_5) (by decide) rfl ?_
    exact own_retN X0 hx hlocks hret (by simp) (hb hby own_d_method_2_code_6) (by decide) (by decide) (by decide) ⟨congrArg (fun q => some (Value.int q)) (by simp [own_lex, hc2_1]), N0, e0⟩
set_option maxRecDepth 65536 in
set_option maxHeartbeats 40000000 in
theorem own_law (l : Launch) (Z : State) (a0 : Array Value) (hw : ∀ d ∈ tables_1, d.before a0 Z = true) (p1 p2 p3 p4 : Int32) (tx : Addr) (h0 : Heap) (n0 : Nat) (O0 : Old Z n0 h0) (S0 : Sta Z Z.heap "com/example/ledgerleaf/ledgerleaf/MarkupWatch$State" "TEXT" "Lcom/example/ledgerleaf/ledgerleaf/MarkupWatch$State;" (.ref tx)) :
    own_Met l x code maxLocals ret room_1 Z #[(.int p1), (.int p2), (.int p3), (.int p4)] h0 (fun v h L => v = some (.int 1) ∧ Fr n0 L) := by
  refine own_met (plainFor_of_name own_pn_com_example_ledgerleaf_ledgerleaf_MarkupWatchIsAtOrAfterDoctypePinLaw) ?_
  intro p e s m below meth c T0 hx hby hml hZ hown hnm hret hlocks X0 e0 hh0
  have ef : entryFrame m #[(.int p1), (.int p2), (.int p3), (.int p4)] maxLocals = mkF m 0 #[.val (.int p1), .val (.int p2), .val (.int p3), .val (.int p4), .unset, .unset, .unset] [] := by first | rfl | (simp [entryFrame, mkF, argsToLocals, Value.category, maxLocals]; done)
  refine own_entry ef ?_
  have N0 := Fr.nil n0
  refine own_new X0 hx hZ hown (hw _ (List.mem_of_getElem? (i := 0) rfl)) (hw _ (List.mem_of_getElem? (i := 1) rfl)) (hw _ (List.mem_of_getElem? (i := 2) rfl)) e0 (hb hby at_0) (by decide) (by decide) rfl ?_
  intro T1 h1 b1 X1 e1 g1 E1 A1 D1
  have g_b1 : n0 ≤ b1 := Nat.le_trans (own_oz O0) (Nat.le_of_eq g1.symm)
  have Fb1_m_eState : Fld Z h1 b1 "com/example/ledgerleaf/ledgerleaf/MarkupWatch" "m_eState" "Lcom/example/ledgerleaf/ledgerleaf/MarkupWatch$State;" .null := D1 (Or.inl (hw _ (List.mem_of_getElem? (i := 13) rfl))) (ty := (.object "com/example/ledgerleaf/ledgerleaf/MarkupWatch$State")) (by decide)
  have Fb1_m_bProlog : Fld Z h1 b1 "com/example/ledgerleaf/ledgerleaf/MarkupWatch" "m_bProlog" "Z" (.int (0 : Int32)) := D1 (Or.inl (hw _ (List.mem_of_getElem? (i := 15) rfl))) (ty := .boolean) (by decide)
  have Fb1_m_nLine : Fld Z h1 b1 "com/example/ledgerleaf/ledgerleaf/MarkupWatch" "m_nLine" "I" (.int (0 : Int32)) := D1 (Or.inl (hw _ (List.mem_of_getElem? (i := 17) rfl))) (ty := .int) (by decide)
  have Fb1_m_nColumn : Fld Z h1 b1 "com/example/ledgerleaf/ledgerleaf/MarkupWatch" "m_nColumn" "I" (.int (0 : Int32)) := D1 (Or.inl (hw _ (List.mem_of_getElem? (i := 19) rfl))) (ty := .int) (by decide)
  have Fb1_m_nLimit : Fld Z h1 b1 "com/example/ledgerleaf/ledgerleaf/MarkupWatch" "m_nLimit" "I" (.int (0 : Int32)) := D1 (Or.inl (hw _ (List.mem_of_getElem? (i := 22) rfl))) (ty := .int) (by decide)
  have Fb1_m_nMarkupLine : Fld Z h1 b1 "com/example/ledgerleaf/ledgerleaf/MarkupWatch" "m_nMarkupLine" "I" (.int (0 : Int32)) := D1 (Or.inl (hw _ (List.mem_of_getElem? (i := 29) rfl))) (ty := .int) (by decide)
  have Fb1_m_nMarkupColumn : Fld Z h1 b1 "com/example/ledgerleaf/ledgerleaf/MarkupWatch" "m_nMarkupColumn" "I" (.int (0 : Int32)) := D1 (Or.inl (hw _ (List.mem_of_getElem? (i := 31) rfl))) (ty := .int) (by decide)
  refine own_dup X1 hx (hb hby at_3) rfl rfl ?_
  have f2 := (O0.ext E1)
  refine own_special X1 hx hZ (y := (⟨"com/example/ledgerleaf/ledgerleaf/MarkupWatch", "<init>", "()V"⟩ : MethodName)) rfl hown (hw _ (List.mem_of_getElem? (i := 3) rfl)) (hw _ (List.mem_of_getElem? (i := 4) rfl)) (hw _ (List.mem_of_getElem? (i := 2) rfl)) (hw _ (List.mem_of_getElem? (i := 5) rfl)) (by decide) e1 (by decide) (W := 1) (by decide) (by decide) (by decide) [] [(.ref b1)] (by rw [hml]; rfl) (a := b1) (own_init l Z a0 hw b1 tx h1 n0 f2 g_b1 S0 A1 D1) own_pd0 rfl rfl rfl (hb hby at_4) rfl ?_
  intro v3 T3 L3 X3 hQ3
  obtain ⟨rfl, Nq3, Kq3, Eq3, Fa3, Fb3⟩ := hQ3
  have N3 := Fr.app N0 Nq3
  show own_Ends p e below _ (T3.setTop (mkF m 7 #[.val (.int p1), .val (.int p2), .val (.int p3), .val (.int p4), .unset, .unset, .unset] [(.ref b1)]))
  refine own_astore X3 hx #[.val (.int p1), .val (.int p2), .val (.int p3), .val (.int p4), .val (.ref b1), .unset, .unset] (hb hby at_7) rfl rfl rfl ?_
  refine own_aload X3 hx (hb hby at_9) rfl rfl rfl ?_
  refine own_iloadN X3 hx (hb hby at_11) rfl rfl ?_
  refine own_iloadN X3 hx (hb hby at_12) rfl rfl ?_
  refine own_virtual X3 hx hZ (y := (⟨"com/example/ledgerleaf/ledgerleaf/MarkupWatch", "isAtOrAfterDoctype", "(II)Z"⟩ : MethodName)) (z := (⟨"com/example/ledgerleaf/ledgerleaf/MarkupWatch", "isAtOrAfterDoctype", "(II)Z"⟩ : MethodName)) hown (hw _ (List.mem_of_getElem? (i := 23) rfl)) (hw _ (List.mem_of_getElem? (i := 24) rfl)) (notFace_of_selects (args := #[]) (mvT hZ (hw _ (List.mem_of_getElem? (i := 26) rfl)))) (hw _ (List.mem_of_getElem? (i := 26) rfl)) (hw _ (List.mem_of_getElem? (i := 25) rfl)) (hw _ (List.mem_of_getElem? (i := 2) rfl)) (hw _ (List.mem_of_getElem? (i := 27) rfl)) (by decide) rfl (by decide) (W := 0) (by decide) (by decide) (by decide) [(.int p1), (.int p2)] [] (by rw [hml]; rfl) Eq3 (own_isat l Z a0 hw b1 p1 p2 T3.heap n0 Fa3 Fb3) own_pd1 rfl rfl rfl (hb hby at_13) rfl ?_
  intro v4 T4 L4 X4 hQ4
  obtain ⟨rfl, Nq4, hh4⟩ := hQ4
  have N4 := Fr.app N3 Nq4
  show own_Ends p e below _ (T4.setTop (mkF m 16 #[.val (.int p1), .val (.int p2), .val (.int p3), .val (.int p4), .val (.ref b1), .unset, .unset] [(.int (own_at p1 p2))]))
  refine own_istore X4 hx #[.val (.int p1), .val (.int p2), .val (.int p3), .val (.int p4), .val (.ref b1), .val (.int (own_at p1 p2)), .unset] (hb hby at_16) rfl rfl ?_
  refine own_aload X4 hx (hb hby at_18) rfl rfl rfl ?_
  refine own_iloadN X4 hx (hb hby at_20) rfl rfl ?_
  refine own_iloadN X4 hx (hb hby at_21) rfl rfl ?_
  refine own_virtual X4 hx hZ (y := (⟨"com/example/ledgerleaf/ledgerleaf/MarkupWatch", "isAtOrAfterDoctype", "(II)Z"⟩ : MethodName)) (z := (⟨"com/example/ledgerleaf/ledgerleaf/MarkupWatch", "isAtOrAfterDoctype", "(II)Z"⟩ : MethodName)) hown (hw _ (List.mem_of_getElem? (i := 23) rfl)) (hw _ (List.mem_of_getElem? (i := 24) rfl)) (notFace_of_selects (args := #[]) (mvT hZ (hw _ (List.mem_of_getElem? (i := 26) rfl)))) (hw _ (List.mem_of_getElem? (i := 26) rfl)) (hw _ (List.mem_of_getElem? (i := 25) rfl)) (hw _ (List.mem_of_getElem? (i := 2) rfl)) (hw _ (List.mem_of_getElem? (i := 27) rfl)) (by decide) hh4 (by decide) (W := 0) (by decide) (by decide) (by decide) [(.int p3), (.int p4)] [] (by rw [hml]; rfl) Eq3 (own_isat l Z a0 hw b1 p3 p4 T3.heap n0 Fa3 Fb3) own_pd1 rfl rfl rfl (hb hby at_22) rfl ?_
  intro v5 T5 L5 X5 hQ5
  obtain ⟨rfl, Nq5, hh5⟩ := hQ5
  have N5 := Fr.app N4 Nq5
  show own_Ends p e below _ (T5.setTop (mkF m 25 #[.val (.int p1), .val (.int p2), .val (.int p3), .val (.int p4), .val (.ref b1), .val (.int (own_at p1 p2)), .unset] [(.int (own_at p3 p4))]))
  refine own_istore X5 hx #[.val (.int p1), .val (.int p2), .val (.int p3), .val (.int p4), .val (.ref b1), .val (.int (own_at p1 p2)), .val (.int (own_at p3 p4))] (hb hby at_25) rfl rfl ?_
  refine own_iload X5 hx (hb hby at_27) rfl rfl ?_
  refine own_iloadN X5 hx (hb hby at_29) rfl rfl ?_
  refine own_iloadN X5 hx (hb hby at_30) rfl rfl ?_
  refine own_iconst X5 hx (0 : Int32) (hb hby at_31) (by decide) rfl ?_
  refine own_iconst X5 hx (0 : Int32) (hb hby at_32) (by decide) rfl ?_
  refine own_static X5 hx hZ (y := (⟨"com/example/ledgerleaf/ledgerleaf/MarkupWatchIsAtOrAfterDoctypePinLaw", "lexAtOrAfter", "(IIII)Z"⟩ : MethodName)) hown (hw _ (List.mem_of_getElem? (i := 32) rfl)) (hw _ (List.mem_of_getElem? (i := 33) rfl)) (hw _ (List.mem_of_getElem? (i := 34) rfl)) (hw _ (List.mem_of_getElem? (i := 35) rfl)) (by decide) hh5 (by decide) (W := 1) (by decide) (by decide) (by decide) [(.int p1), (.int p2), (.int (0 : Int32)), (.int (0 : Int32))] [(.int (own_at p1 p2))] (by rw [hml]; rfl) (own_lexm l Z a0 hw p1 p2 (0 : Int32) (0 : Int32) T3.heap n0) own_pd2 rfl rfl rfl (hb hby at_33) rfl ?_
  intro v6 T6 L6 X6 hQ6
  obtain ⟨rfl, Nq6, hh6⟩ := hQ6
  have N6 := Fr.app N5 Nq6
  show own_Ends p e below _ (T6.setTop (mkF m 36 #[.val (.int p1), .val (.int p2), .val (.int p3), .val (.int p4), .val (.ref b1), .val (.int (own_at p1 p2)), .val (.int (own_at p3 p4))] [(.int (own_lex p1 p2 (0 : Int32) (0 : Int32))), (.int (own_at p1 p2))]))
  refine own_icmpF X6 hx (hb hby at_36) rfl (teq (own_at_lex p1 p2)).2 ?_
  refine own_iload X6 hx (hb hby at_39) rfl rfl ?_
  refine own_iloadN X6 hx (hb hby at_41) rfl rfl ?_
  refine own_iloadN X6 hx (hb hby at_42) rfl rfl ?_
  refine own_iconst X6 hx (0 : Int32) (hb hby at_43) (by decide) rfl ?_
  refine own_iconst X6 hx (0 : Int32) (hb hby at_44) (by decide) rfl ?_
  refine own_static X6 hx hZ (y := (⟨"com/example/ledgerleaf/ledgerleaf/MarkupWatchIsAtOrAfterDoctypePinLaw", "lexAtOrAfter", "(IIII)Z"⟩ : MethodName)) hown (hw _ (List.mem_of_getElem? (i := 32) rfl)) (hw _ (List.mem_of_getElem? (i := 33) rfl)) (hw _ (List.mem_of_getElem? (i := 34) rfl)) (hw _ (List.mem_of_getElem? (i := 35) rfl)) (by decide) hh6 (by decide) (W := 1) (by decide) (by decide) (by decide) [(.int p3), (.int p4), (.int (0 : Int32)), (.int (0 : Int32))] [(.int (own_at p3 p4))] (by rw [hml]; rfl) (own_lexm l Z a0 hw p3 p4 (0 : Int32) (0 : Int32) T3.heap n0) own_pd2 rfl rfl rfl (hb hby at_45) rfl ?_
  intro v7 T7 L7 X7 hQ7
  obtain ⟨rfl, Nq7, hh7⟩ := hQ7
  have N7 := Fr.app N6 Nq7
  show own_Ends p e below _ (T7.setTop (mkF m 48 #[.val (.int p1), .val (.int p2), .val (.int p3), .val (.int p4), .val (.ref b1), .val (.int (own_at p1 p2)), .val (.int (own_at p3 p4))] [(.int (own_lex p3 p4 (0 : Int32) (0 : Int32))), (.int (own_at p3 p4))]))
  refine own_icmpF X7 hx (hb hby at_48) rfl (teq (own_at_lex p3 p4)).2 ?_
  refine own_iconst X7 hx (1 : Int32) (hb hby at_51) (by decide) rfl ?_
  refine own_goto X7 hx (hb hby at_52) (by decide) rfl ?_
  exact own_retN X7 hx hlocks hret (by simp) (hb hby at_56) (by decide) (by decide) (by decide) ⟨rfl, N7⟩
set_option maxRecDepth 65536 in
set_option maxHeartbeats 40000000 in
theorem comes_1 {Post : Tables → Env → Array Value → State → Outcome → State → Prop} (hpost : ∀ tb e args s v u, (limb_1_1.after args s (.returned v) u = true ∧ limb_1_2.after args s (.returned v) u = true ∧ True) → FrameEnd s (.returned v) u (Jvm.fieldLocs frame_1_writes args s ++ Jvm.arrayLocs frame_1_arrays args s ++ Jvm.staticLocs frame_1_statics s) 16 128 → Post tb e args s (.returned v) u) :
    ArmFor flags0 classFile x code maxLocals ret World_1 tables_1 room_1 Calls_1 rest_1 Pre_1 Post := by
  intro l hfl _ _ p e ha hc hk s m args below hf hA hF happ hP
  obtain ⟨hcalls, hrest, hpre⟩ := hP
  obtain ⟨-, -, -, hnamed, -, -, -, hat⟩ := (Spec.applies_iff hf).mp happ
  obtain ⟨hg, hn⟩ := and_e (Cond.before_iff.mp (show (Jvm.Cond.and given_1 narrow_1).before args s = true from hpre))
  obtain ⟨k1a, k1b⟩ := and_e hg
  obtain ⟨k2a, k2b⟩ := and_e k1b
  obtain ⟨k3a, k3b⟩ := and_e k2b
  obtain ⟨k4a, k4b⟩ := and_e k3b
  obtain ⟨w0, w1, w2, w3, rfl⟩ : ∃ w0 w1 w2 w3 : Value, args = #[w0, w1, w2, w3] := by
    have hs : args.size = 4 := by simpa [Cond.value, given_1] using k1a
    obtain ⟨L⟩ := args
    match L, hs with
    | [w0, w1, w2, w3], _ => exact ⟨w0, w1, w2, w3, rfl⟩
  have hw := fun d (hd : d ∈ tables_1) => atoms_spec (ws := Jvm.Cond.code x code maxLocals ret :: tables_1) hat d (List.mem_cons_of_mem _ hd)
  have hfit : Fit s := fun {y c} hc i hi => by
    obtain ⟨ha, rfl⟩ := Array.getElem?_eq_some_iff.mp hc
    have q := List.all_eq_true.mp ((Array.all_eq_true_iff_forall_mem.mp hF) _ (Array.getElem_mem ha)) i (List.mem_range.mpr hi)
    simpa [Array.getElem?_eq_getElem hi] using q
  obtain ⟨i0, ei0⟩ := is_v k2a
  obtain rfl : w0 = (.int i0) := Option.some.inj ei0
  obtain ⟨i1, ei1⟩ := is_v k3a
  obtain rfl : w1 = (.int i1) := Option.some.inj ei1
  obtain ⟨i2, ei2⟩ := is_v k4a
  obtain rfl : w2 = (.int i2) := Option.some.inj ei2
  obtain ⟨i3, ei3⟩ := is_v k4b
  obtain rfl : w3 = (.int i3) := Option.some.inj ei3
  obtain ⟨tx, etx⟩ := exa_v hn
  have S0 := Sta.start etx (Or.inr ⟨(hw _ (List.mem_of_getElem? (i := 10) rfl)), (hw _ (List.mem_of_getElem? (i := 11) rfl))⟩)
  obtain ⟨n, o, h1, h2, h3, _, L, rfl, ⟨rfl, N⟩, hq⟩ := own_law l s _ hw i0 i1 i2 i3 tx s.heap s.heap.size (Old.start s) S0 tables_1 p e ha hc hk s m _ below hf ((Spec.applies_iff_loose hf).mp happ).1 ⟨rfl, State.Warmed39.refl s, rfl⟩ trivial
  refine ⟨n, _, h1, h2, h3, hpost _ _ _ _ _ _ ⟨Cond.after_iff.mpr rfl, Cond.after_iff.mpr (eq_i res_at (Term.int_eval (1)) rfl), trivial⟩ ⟨hq.1, hq.2.1, (hq.2.2.sift fun y hy => Or.inr (N y hy)).mono (by decide) (by decide)⟩⟩
theorem main_1_1 : Claimed_1_1 := comes_1 fun _ _ _ _ _ _ h hF => ⟨h.1, hF⟩
theorem main_1_2 : Claimed_1_2 := comes_1 fun _ _ _ _ _ _ h hF => ⟨h.2.1, hF⟩
end Jvm.Pilot.@@N@@
namespace Jvm.Pilot.@@N@@
open Jvm Jvm.ClassFile Sem Op Lib Jvm.Free Jvm.Stand Jvm.Pilot.@@N@@.Jvm.D
/-! MADE BY PROGRAM (witnessworld.py) out of the Statement's table words and the real class files: 13 classes; the members and pool entries that the words name. The judged class is class 1, her method 2. -/
namespace start1
open Jvm.ClassFile
def u (s : String) : CpInfo := .utf8 (stringToUtf16 s)
/-- a pool by its gaps: so many unusable entries, then the entry; so many at the end -/
def gap : Nat → List CpInfo → List CpInfo
  | 0, r => r
  | n + 1, r => .unusable :: gap n r
def poolList (es : List (Nat × CpInfo)) (last : Nat) : List CpInfo := es.foldr (fun e r => gap e.1 (e.2 :: r)) (gap last [])
def pool (es : List (Nat × CpInfo)) (last : Nat) : Array CpInfo := ⟨poolList es last⟩
def fileOf (pool : Array CpInfo) (this : Nat) (attrs : Array Attribute := #[]) (ms : Array MethodInfo := #[]) (fl : Nat := 33) (sup : Nat := 0) (ifs : Array Nat := #[]) (fds : Array FieldInfo := #[]) : ClassFile where
  minorVersion := 0
  majorVersion := 65
  constantPool := pool
  accessFlags := fl
  thisClass := this
  superClass := sup
  interfaces := ifs
  fields := fds
  methods := ms
  attributes := attrs
def plain (name : String) (sup : Option ClassId) : Class where
  name := name
  kind := .ordinary
  loader := none
  accessFlags := 33
  super := sup
  interfaces := #[]
  cf := none
  fields := #[]
  methods := #[]
  instanceTypes := #[]
  staticTypes := #[]
  resolved := #[]
  callSites := []
  init := .initialized
  statics := none
  mirror := none

def pool0 : Array CpInfo := pool [(5, u "<init>"), (0, u "()V"), (1, .class_ 10), (1, u "java/lang/Object")] 113

def k0c0 : Code := { maxStack := 0, maxLocals := 1, code := object_method_1_code, exceptionTable := #[], attributes := #[] }
def k0m0 : Method := { name := "<init>", desc := "()V", sig := { parameters := [], returnType := none }, accessFlags := 1, code := some k0c0 }
/-- java/lang/Object -/
def k0 : Class := { plain "java/lang/Object" none with
  accessFlags := 33
  interfaces := #[]
  cf := some (fileOf pool0 8 #[] #[{ accessFlags := 1, nameIndex := 5, descriptorIndex := 6, attributes := #[] }] 33 0 #[] #[])
  fields := #[]
  methods := #[k0m0]
  instanceTypes := #[]
  staticTypes := #[]
  resolved := Array.replicate 124 none
  statics := none }

def pool1 : Array CpInfo := pool [(2, .class_ 4), (0, .nameAndType 5 6), (0, u "java/lang/Object"), (0, u "<init>"), (0, u "()V"), (0, .class_ 8), (0, u "com/example/ledgerleaf/ledgerleaf/MarkupWatch"), (0, .methodref 7 3), (0, .methodref 7 11), (0, .nameAndType 12 13), (0, u "isAtOrAfterDoctype"), (0, u "(II)Z"), (0, .methodref 15 16), (0, .class_ 17), (0, .nameAndType 18 19), (0, u "com/example/ledgerleaf/ledgerleaf/MarkupWatchIsAtOrAfterDoctypePinLaw"), (0, u "lexAtOrAfter"), (0, u "(IIII)Z"), (3, u "law")] 2

def k1m0 : Method := { name := "<init>", desc := "()V", sig := { parameters := [], returnType := none }, accessFlags := 1, code := none }
def k1c1 : Code := { maxStack := 2, maxLocals := 4, code := method_2_code, exceptionTable := #[], attributes := #[] }
def k1m1 : Method := { name := "lexAtOrAfter", desc := "(IIII)Z", sig := { parameters := [.int, .int, .int, .int], returnType := some .boolean }, accessFlags := 10, code := some k1c1 }
def k1c2 : Code := { maxStack := 5, maxLocals := 7, code := code, exceptionTable := #[], attributes := #[] }
def k1m2 : Method := { name := "law", desc := "(IIII)Z", sig := { parameters := [.int, .int, .int, .int], returnType := some .boolean }, accessFlags := 9, code := some k1c2 }
/-- com/example/ledgerleaf/ledgerleaf/MarkupWatchIsAtOrAfterDoctypePinLaw -/
def k1 : Class := { plain "com/example/ledgerleaf/ledgerleaf/MarkupWatchIsAtOrAfterDoctypePinLaw" (some 0) with
  accessFlags := 49
  interfaces := #[]
  cf := some (fileOf pool1 15 #[] #[{ accessFlags := 1, nameIndex := 5, descriptorIndex := 6, attributes := #[] }, { accessFlags := 10, nameIndex := 18, descriptorIndex := 19, attributes := #[] }, { accessFlags := 9, nameIndex := 23, descriptorIndex := 19, attributes := #[] }] 49 2 #[] #[])
  fields := #[]
  methods := #[k1m0, k1m1, k1m2]
  instanceTypes := #[]
  staticTypes := #[]
  resolved := Array.replicate 26 none
  statics := none }

def pool2 : Array CpInfo := pool [(3, .methodref 4 5), (0, .class_ 6), (0, .nameAndType 7 8), (0, u "java/lang/Object"), (0, u "<init>"), (0, u "()V"), (0, .fieldref 10 11), (0, .class_ 12), (0, .nameAndType 13 14), (0, u "com/example/ledgerleaf/ledgerleaf/MarkupWatch$State"), (0, u "TEXT"), (0, u "Lcom/example/ledgerleaf/ledgerleaf/MarkupWatch$State;"), (0, .fieldref 16 17), (0, .class_ 18), (0, .nameAndType 19 14), (0, u "com/example/ledgerleaf/ledgerleaf/MarkupWatch"), (0, u "m_eState"), (0, .fieldref 16 21), (0, .nameAndType 22 23), (0, u "m_bProlog"), (0, u "Z"), (0, .fieldref 16 25), (0, .nameAndType 26 27), (0, u "m_nLine"), (0, u "I"), (0, .fieldref 16 29), (0, .nameAndType 30 27), (0, u "m_nColumn"), (0, .integer 2147483647), (0, .fieldref 16 33), (0, .nameAndType 34 27), (0, u "m_nLimit"), (37, u "m_aWaiting"), (0, u "Ljava/lang/StringBuilder;"), (14, u "m_nRun"), (2, u "m_nLength"), (2, u "m_bAfterCarriageReturn"), (3, u "m_bXml11"), (7, u "Ljava/lang/String;"), (2, u "m_sOverlong"), (3, .fieldref 16 114), (0, .nameAndType 115 27), (0, u "m_nMarkupLine"), (0, .fieldref 16 117), (0, .nameAndType 118 27), (0, u "m_nMarkupColumn"), (23, u "DOCTYPE_KEYWORD"), (20, u "m_cQuote"), (0, u "C"), (8, u "m_bTold"), (23, u "CDATA_KEYWORD"), (0, u "ASCII"), (2, u "NO_RETURN"), (0, u "TAG_PIECE"), (2, u "COMMENT_PIECE"), (2, u "DOCTYPE_PIECE"), (0, u "BYTE_ORDER_MARK"), (0, u "NEXT_LINE"), (1, u "LINE_SEPARATOR"), (17, u "isAtOrAfterDoctype"), (0, u "(II)Z")] 5

def k2c0 : Code := { maxStack := 2, maxLocals := 1, code := prog_66_method_1_code, exceptionTable := #[], attributes := #[] }
def k2m0 : Method := { name := "<init>", desc := "()V", sig := { parameters := [], returnType := none }, accessFlags := 0, code := some k2c0 }
def k2c1 : Code := { maxStack := 2, maxLocals := 3, code := prog_66_method_11_code, exceptionTable := #[], attributes := #[] }
def k2m1 : Method := { name := "isAtOrAfterDoctype", desc := "(II)Z", sig := { parameters := [.int, .int], returnType := some .boolean }, accessFlags := 0, code := some k2c1 }
/-- com/example/ledgerleaf/ledgerleaf/MarkupWatch -/
def k2 : Class := { plain "com/example/ledgerleaf/ledgerleaf/MarkupWatch" (some 0) with
  accessFlags := 48
  interfaces := #[]
  cf := some (fileOf pool2 16 #[.nestMembers #[10]] #[{ accessFlags := 0, nameIndex := 7, descriptorIndex := 8, attributes := #[] }, { accessFlags := 0, nameIndex := 230, descriptorIndex := 231, attributes := #[] }] 48 4 #[] #[{ accessFlags := 26, nameIndex := 198, descriptorIndex := 27, attributes := #[] }, { accessFlags := 26, nameIndex := 201, descriptorIndex := 27, attributes := #[] }, { accessFlags := 26, nameIndex := 202, descriptorIndex := 106, attributes := #[] }, { accessFlags := 26, nameIndex := 205, descriptorIndex := 106, attributes := #[] }, { accessFlags := 26, nameIndex := 208, descriptorIndex := 106, attributes := #[] }, { accessFlags := 26, nameIndex := 142, descriptorIndex := 106, attributes := #[] }, { accessFlags := 26, nameIndex := 197, descriptorIndex := 106, attributes := #[] }, { accessFlags := 26, nameIndex := 209, descriptorIndex := 164, attributes := #[] }, { accessFlags := 26, nameIndex := 210, descriptorIndex := 164, attributes := #[] }, { accessFlags := 26, nameIndex := 212, descriptorIndex := 164, attributes := #[] }, { accessFlags := 2, nameIndex := 173, descriptorIndex := 23, attributes := #[] }, { accessFlags := 2, nameIndex := 72, descriptorIndex := 73, attributes := #[] }, { accessFlags := 2, nameIndex := 19, descriptorIndex := 14, attributes := #[] }, { accessFlags := 2, nameIndex := 22, descriptorIndex := 23, attributes := #[] }, { accessFlags := 2, nameIndex := 88, descriptorIndex := 27, attributes := #[] }, { accessFlags := 2, nameIndex := 163, descriptorIndex := 164, attributes := #[] }, { accessFlags := 2, nameIndex := 98, descriptorIndex := 23, attributes := #[] }, { accessFlags := 2, nameIndex := 94, descriptorIndex := 23, attributes := #[] }, { accessFlags := 2, nameIndex := 26, descriptorIndex := 27, attributes := #[] }, { accessFlags := 2, nameIndex := 30, descriptorIndex := 27, attributes := #[] }, { accessFlags := 2, nameIndex := 115, descriptorIndex := 27, attributes := #[] }, { accessFlags := 2, nameIndex := 118, descriptorIndex := 27, attributes := #[] }, { accessFlags := 2, nameIndex := 34, descriptorIndex := 27, attributes := #[] }, { accessFlags := 2, nameIndex := 91, descriptorIndex := 27, attributes := #[] }, { accessFlags := 2, nameIndex := 109, descriptorIndex := 106, attributes := #[] }])
  fields := #[{ name := "ASCII", type := .int, accessFlags := 26, slot := 0, constantValue := 0 }, { name := "NO_RETURN", type := .int, accessFlags := 26, slot := 1, constantValue := 0 }, { name := "TAG_PIECE", type := (.object "java/lang/String"), accessFlags := 26, slot := 2, constantValue := 0 }, { name := "COMMENT_PIECE", type := (.object "java/lang/String"), accessFlags := 26, slot := 3, constantValue := 0 }, { name := "DOCTYPE_PIECE", type := (.object "java/lang/String"), accessFlags := 26, slot := 4, constantValue := 0 }, { name := "DOCTYPE_KEYWORD", type := (.object "java/lang/String"), accessFlags := 26, slot := 5, constantValue := 0 }, { name := "CDATA_KEYWORD", type := (.object "java/lang/String"), accessFlags := 26, slot := 6, constantValue := 0 }, { name := "BYTE_ORDER_MARK", type := .char, accessFlags := 26, slot := 7, constantValue := 0 }, { name := "NEXT_LINE", type := .char, accessFlags := 26, slot := 8, constantValue := 0 }, { name := "LINE_SEPARATOR", type := .char, accessFlags := 26, slot := 9, constantValue := 0 }, { name := "m_bTold", type := .boolean, accessFlags := 2, slot := 0, constantValue := 0 }, { name := "m_aWaiting", type := (.object "java/lang/StringBuilder"), accessFlags := 2, slot := 1, constantValue := 0 }, { name := "m_eState", type := (.object "com/example/ledgerleaf/ledgerleaf/MarkupWatch$State"), accessFlags := 2, slot := 2, constantValue := 0 }, { name := "m_bProlog", type := .boolean, accessFlags := 2, slot := 3, constantValue := 0 }, { name := "m_nRun", type := .int, accessFlags := 2, slot := 4, constantValue := 0 }, { name := "m_cQuote", type := .char, accessFlags := 2, slot := 5, constantValue := 0 }, { name := "m_bXml11", type := .boolean, accessFlags := 2, slot := 6, constantValue := 0 }, { name := "m_bAfterCarriageReturn", type := .boolean, accessFlags := 2, slot := 7, constantValue := 0 }, { name := "m_nLine", type := .int, accessFlags := 2, slot := 8, constantValue := 0 }, { name := "m_nColumn", type := .int, accessFlags := 2, slot := 9, constantValue := 0 }, { name := "m_nMarkupLine", type := .int, accessFlags := 2, slot := 10, constantValue := 0 }, { name := "m_nMarkupColumn", type := .int, accessFlags := 2, slot := 11, constantValue := 0 }, { name := "m_nLimit", type := .int, accessFlags := 2, slot := 12, constantValue := 0 }, { name := "m_nLength", type := .int, accessFlags := 2, slot := 13, constantValue := 0 }, { name := "m_sOverlong", type := (.object "java/lang/String"), accessFlags := 2, slot := 14, constantValue := 0 }]
  methods := #[k2m0, k2m1]
  instanceTypes := #[.boolean, (.object "java/lang/StringBuilder"), (.object "com/example/ledgerleaf/ledgerleaf/MarkupWatch$State"), .boolean, .int, .char, .boolean, .boolean, .int, .int, .int, .int, .int, .int, (.object "java/lang/String")]
  staticTypes := #[.int, .int, (.object "java/lang/String"), (.object "java/lang/String"), (.object "java/lang/String"), (.object "java/lang/String"), (.object "java/lang/String"), .char, .char, .char]
  resolved := Array.replicate 237 none
  statics := none }

def pool3 : Array CpInfo := pool [(1, .class_ 2), (0, u "java/lang/constant/Constable"), (0, .class_ 4), (0, u "java/lang/Object")] 6

/-- java/lang/constant/Constable -/
def k3 : Class := { plain "java/lang/constant/Constable" (some 0) with
  accessFlags := 1537
  interfaces := #[]
  cf := some (fileOf pool3 1 #[] #[] 1537 3 #[] #[])
  fields := #[]
  methods := #[]
  instanceTypes := #[]
  staticTypes := #[]
  resolved := Array.replicate 11 none
  statics := none }

def pool4 : Array CpInfo := pool [(1, .class_ 2), (0, u "java/lang/Comparable"), (0, .class_ 4), (0, u "java/lang/Object")] 7

/-- java/lang/Comparable -/
def k4 : Class := { plain "java/lang/Comparable" (some 0) with
  accessFlags := 1537
  interfaces := #[]
  cf := some (fileOf pool4 1 #[] #[] 1537 3 #[] #[])
  fields := #[]
  methods := #[]
  instanceTypes := #[]
  staticTypes := #[]
  resolved := Array.replicate 12 none
  statics := none }

def pool5 : Array CpInfo := pool [(1, .class_ 2), (0, u "java/io/Serializable"), (0, .class_ 4), (0, u "java/lang/Object")] 2

/-- java/io/Serializable -/
def k5 : Class := { plain "java/io/Serializable" (some 0) with
  accessFlags := 1537
  interfaces := #[]
  cf := some (fileOf pool5 1 #[] #[] 1537 3 #[] #[])
  fields := #[]
  methods := #[]
  instanceTypes := #[]
  staticTypes := #[]
  resolved := Array.replicate 7 none
  statics := none }

def pool6 : Array CpInfo := pool [(2, .class_ 4), (1, u "java/lang/Enum"), (0, u "name"), (0, u "Ljava/lang/String;"), (2, u "ordinal"), (0, u "I"), (1, .class_ 14), (1, u "java/lang/Object"), (4, u "hash"), (86, .class_ 108), (1, u "java/lang/Enum$EnumDesc"), (2, .class_ 112), (0, u "java/lang/constant/Constable"), (0, .class_ 114), (0, u "java/lang/Comparable"), (0, .class_ 116), (0, u "java/io/Serializable")] 87

/-- java/lang/Enum -/
def k6 : Class := { plain "java/lang/Enum" (some 0) with
  accessFlags := 1057
  interfaces := #[3, 4, 5]
  cf := some (fileOf pool6 2 #[.nestMembers #[106]] #[] 1057 12 #[111, 113, 115] #[{ accessFlags := 18, nameIndex := 5, descriptorIndex := 6, attributes := #[] }, { accessFlags := 18, nameIndex := 9, descriptorIndex := 10, attributes := #[] }, { accessFlags := 2, nameIndex := 19, descriptorIndex := 10, attributes := #[] }])
  fields := #[{ name := "name", type := (.object "java/lang/String"), accessFlags := 18, slot := 0, constantValue := 0 }, { name := "ordinal", type := .int, accessFlags := 18, slot := 1, constantValue := 0 }, { name := "hash", type := .int, accessFlags := 2, slot := 2, constantValue := 0 }]
  methods := #[]
  instanceTypes := #[(.object "java/lang/String"), .int, .int]
  staticTypes := #[]
  resolved := Array.replicate 204 none
  statics := none }

def pool7 : Array CpInfo := pool [(1, .class_ 2), (0, u "com/example/ledgerleaf/ledgerleaf/MarkupWatch"), (0, .class_ 4), (0, u "com/example/ledgerleaf/ledgerleaf/MarkupWatch$State"), (2, u "TEXT"), (0, u "Lcom/example/ledgerleaf/ledgerleaf/MarkupWatch$State;"), (2, u "MARKUP"), (2, u "BANG"), (2, u "COMMENT_START"), (2, u "COMMENT"), (2, u "INSTRUCTION"), (2, u "DOCTYPE_KEYWORD"), (2, u "DOCTYPE"), (2, u "CDATA_KEYWORD"), (2, u "CDATA"), (2, u "TAG"), (2, u "VALUE"), (2, u "END_TAG"), (2, u "OVER"), (2, u "$VALUES"), (0, u "[Lcom/example/ledgerleaf/ledgerleaf/MarkupWatch$State;"), (6, .class_ 60), (1, u "java/lang/Enum"), (8, u "m_sPiece"), (0, u "Ljava/lang/String;"), (2, u "m_aStops"), (0, u "[Z")] 87

/-- com/example/ledgerleaf/ledgerleaf/MarkupWatch$State -/
def k7 : Class := { plain "com/example/ledgerleaf/ledgerleaf/MarkupWatch$State" (some 6) with
  accessFlags := 16432
  interfaces := #[]
  cf := some (fileOf pool7 3 #[.nestHost 1] #[] 16432 58 #[] #[{ accessFlags := 16409, nameIndex := 7, descriptorIndex := 8, attributes := #[] }, { accessFlags := 16409, nameIndex := 11, descriptorIndex := 8, attributes := #[] }, { accessFlags := 16409, nameIndex := 14, descriptorIndex := 8, attributes := #[] }, { accessFlags := 16409, nameIndex := 17, descriptorIndex := 8, attributes := #[] }, { accessFlags := 16409, nameIndex := 20, descriptorIndex := 8, attributes := #[] }, { accessFlags := 16409, nameIndex := 23, descriptorIndex := 8, attributes := #[] }, { accessFlags := 16409, nameIndex := 26, descriptorIndex := 8, attributes := #[] }, { accessFlags := 16409, nameIndex := 29, descriptorIndex := 8, attributes := #[] }, { accessFlags := 16409, nameIndex := 32, descriptorIndex := 8, attributes := #[] }, { accessFlags := 16409, nameIndex := 35, descriptorIndex := 8, attributes := #[] }, { accessFlags := 16409, nameIndex := 38, descriptorIndex := 8, attributes := #[] }, { accessFlags := 16409, nameIndex := 41, descriptorIndex := 8, attributes := #[] }, { accessFlags := 16409, nameIndex := 44, descriptorIndex := 8, attributes := #[] }, { accessFlags := 16409, nameIndex := 47, descriptorIndex := 8, attributes := #[] }, { accessFlags := 18, nameIndex := 69, descriptorIndex := 70, attributes := #[] }, { accessFlags := 18, nameIndex := 73, descriptorIndex := 74, attributes := #[] }, { accessFlags := 4122, nameIndex := 50, descriptorIndex := 51, attributes := #[] }])
  fields := #[{ name := "TEXT", type := (.object "com/example/ledgerleaf/ledgerleaf/MarkupWatch$State"), accessFlags := 16409, slot := 0, constantValue := 0 }, { name := "MARKUP", type := (.object "com/example/ledgerleaf/ledgerleaf/MarkupWatch$State"), accessFlags := 16409, slot := 1, constantValue := 0 }, { name := "BANG", type := (.object "com/example/ledgerleaf/ledgerleaf/MarkupWatch$State"), accessFlags := 16409, slot := 2, constantValue := 0 }, { name := "COMMENT_START", type := (.object "com/example/ledgerleaf/ledgerleaf/MarkupWatch$State"), accessFlags := 16409, slot := 3, constantValue := 0 }, { name := "COMMENT", type := (.object "com/example/ledgerleaf/ledgerleaf/MarkupWatch$State"), accessFlags := 16409, slot := 4, constantValue := 0 }, { name := "INSTRUCTION", type := (.object "com/example/ledgerleaf/ledgerleaf/MarkupWatch$State"), accessFlags := 16409, slot := 5, constantValue := 0 }, { name := "DOCTYPE_KEYWORD", type := (.object "com/example/ledgerleaf/ledgerleaf/MarkupWatch$State"), accessFlags := 16409, slot := 6, constantValue := 0 }, { name := "DOCTYPE", type := (.object "com/example/ledgerleaf/ledgerleaf/MarkupWatch$State"), accessFlags := 16409, slot := 7, constantValue := 0 }, { name := "CDATA_KEYWORD", type := (.object "com/example/ledgerleaf/ledgerleaf/MarkupWatch$State"), accessFlags := 16409, slot := 8, constantValue := 0 }, { name := "CDATA", type := (.object "com/example/ledgerleaf/ledgerleaf/MarkupWatch$State"), accessFlags := 16409, slot := 9, constantValue := 0 }, { name := "TAG", type := (.object "com/example/ledgerleaf/ledgerleaf/MarkupWatch$State"), accessFlags := 16409, slot := 10, constantValue := 0 }, { name := "VALUE", type := (.object "com/example/ledgerleaf/ledgerleaf/MarkupWatch$State"), accessFlags := 16409, slot := 11, constantValue := 0 }, { name := "END_TAG", type := (.object "com/example/ledgerleaf/ledgerleaf/MarkupWatch$State"), accessFlags := 16409, slot := 12, constantValue := 0 }, { name := "OVER", type := (.object "com/example/ledgerleaf/ledgerleaf/MarkupWatch$State"), accessFlags := 16409, slot := 13, constantValue := 0 }, { name := "m_sPiece", type := (.object "java/lang/String"), accessFlags := 18, slot := 3, constantValue := 0 }, { name := "m_aStops", type := (.array .boolean), accessFlags := 18, slot := 4, constantValue := 0 }, { name := "$VALUES", type := (.array (.object "com/example/ledgerleaf/ledgerleaf/MarkupWatch$State")), accessFlags := 4122, slot := 14, constantValue := 0 }]
  methods := #[]
  instanceTypes := #[(.object "java/lang/String"), .int, .int, (.object "java/lang/String"), (.array .boolean)]
  staticTypes := #[(.object "com/example/ledgerleaf/ledgerleaf/MarkupWatch$State"), (.object "com/example/ledgerleaf/ledgerleaf/MarkupWatch$State"), (.object "com/example/ledgerleaf/ledgerleaf/MarkupWatch$State"), (.object "com/example/ledgerleaf/ledgerleaf/MarkupWatch$State"), (.object "com/example/ledgerleaf/ledgerleaf/MarkupWatch$State"), (.object "com/example/ledgerleaf/ledgerleaf/MarkupWatch$State"), (.object "com/example/ledgerleaf/ledgerleaf/MarkupWatch$State"), (.object "com/example/ledgerleaf/ledgerleaf/MarkupWatch$State"), (.object "com/example/ledgerleaf/ledgerleaf/MarkupWatch$State"), (.object "com/example/ledgerleaf/ledgerleaf/MarkupWatch$State"), (.object "com/example/ledgerleaf/ledgerleaf/MarkupWatch$State"), (.object "com/example/ledgerleaf/ledgerleaf/MarkupWatch$State"), (.object "com/example/ledgerleaf/ledgerleaf/MarkupWatch$State"), (.object "com/example/ledgerleaf/ledgerleaf/MarkupWatch$State"), (.array (.object "com/example/ledgerleaf/ledgerleaf/MarkupWatch$State"))]
  resolved := Array.replicate 162 none
  statics := some 0 }

def pool8 : Array CpInfo := pool [(1, u "java/lang/Cloneable"), (0, .class_ 1), (0, u "java/lang/Object"), (0, .class_ 3)] 3

/-- java/lang/Cloneable -/
def k8 : Class := { plain "java/lang/Cloneable" (some 0) with
  accessFlags := 1537
  interfaces := #[]
  cf := some (fileOf pool8 2 #[] #[] 1537 4 #[] #[])
  fields := #[]
  methods := #[]
  instanceTypes := #[]
  staticTypes := #[]
  resolved := Array.replicate 8 none
  statics := none }

/-- the primitive byte -/
def k9 : Class := { plain "byte" none with kind := .primitive 'B', accessFlags := 0x411 }
/-- [B -/
def k10 : Class := { plain "[B" (some 0) with kind := .array 9 .byte, interfaces := #[8, 5], accessFlags := 1041 }

/-- the primitive int -/
def k11 : Class := { plain "int" none with kind := .primitive 'I', accessFlags := 0x411 }
/-- [I -/
def k12 : Class := { plain "[I" (some 0) with kind := .array 11 .int, interfaces := #[8, 5], accessFlags := 1041 }

def heap : Heap := #[{ cls := 7, slots := #[.ref 1, .null, .null, .null, .null, .null, .null, .null, .null, .null, .null, .null, .null, .null, .null], vm := .statics 7 },
  { cls := 7, slots := #[.null, .int 0, .int 0, .null, .null], vm := .none }]
def classes : Array Class := #[k0, k1, k2, k3, k4, k5, k6, k7, k8, k9, k10, k11, k12]
def interned : List (Array UInt16 × Addr) := []
def slotsUsed : Nat := 20
def theMethod : MethodId := ⟨1, 2⟩
def args0 : Array Value := #[.int 5, .int 6, .int 0, .int 3]
def aboutOver (below : List Frame) : State where
  vm := { classes := classes, interned := interned.toArray }
  heap := heap
  slotsUsed := slotsUsed
  threads := #[{ frames := .invoking theMethod args0 :: below }]
def below0 : List Frame := [.native { method := ⟨0, 0⟩, args := #[] }]
def about1 : State := aboutOver below0
def p0 : Program := .bare "" "" ""
def e0 : Env := launch0.env 0 0 0
theorem w_frames : about1.frames = Frame.invoking theMethod args0 :: below0 := rfl
set_option maxRecDepth 65536 in
theorem w_args : argsFit about1.vm theMethod args0 = true := by decide +kernel
set_option maxRecDepth 65536 in
theorem w_heap : heapFits about1 = true := by decide +kernel
set_option maxRecDepth 65536 in
theorem w_runnable : about1.curStatus? = some .runnable := by decide +kernel
set_option maxRecDepth 65536 in
theorem w_alone : about1.alone = true := by decide +kernel
set_option maxRecDepth 65536 in
theorem w_named : about1.methodNamed? x = some theMethod := by decide +kernel
set_option maxRecDepth 65536 in
theorem w_hears : about1.hears theMethod below0 = true := by decide +kernel
set_option maxRecDepth 65536 in
theorem w_ripe : about1.ripe theMethod args0 below0 = true := by decide +kernel
theorem w_running : about1.status = .running := rfl
set_option maxRecDepth 65536 in
theorem w_room : about1.hasRoom e0.platform room_1 = true :=
  launch0.hasRoom_least _ room_1 (by decide +kernel) (by decide +kernel) (by decide +kernel) (by decide +kernel) (by decide +kernel) (by decide +kernel)
theorem allAtoms_all (ts : List Jvm.Cond) (a : Array Jvm.Value) (st : Jvm.State) : (allAtoms ts).before a st = ts.all (fun c => c.before a st) := by
  induction ts with
  | nil => rfl
  | cons c t ih =>
    show (Jvm.Cond.and c (allAtoms t)).before a st = _
    rw [Jvm.Cond.before_and, ih, List.all_cons]
def words1 : List Jvm.Cond := Jvm.Cond.code x code maxLocals ret :: tables_1
/-- a 'code' word, met by the world's own term for the bytes: nothing is compared byte by byte -/
theorem code_word {y : MethodName} {bytes : ByteArray} {mx : Nat} {rt : Option FieldType} {a : Array Value} {s : State} {m : MethodId} {meth : Method} {c : Code} (h1 : s.methodNamed? y = some m) (h2 : s.vm.method? m = some meth) (h3 : meth.code = some c) (h4 : c.code = bytes)
    (h5 : (c.maxLocals == mx && c.exceptionTable.isEmpty && decide (c.maxStack ≤ mostOperands) && decide (meth.sig.returnType = rt) && !meth.locks && decide (parseMethodDescriptor y.desc = some meth.sig)) = true) : (Jvm.Cond.code y bytes mx rt).before a s = true := by
  simp only [Bool.and_eq_true, beq_iff_eq, Bool.not_eq_true', decide_eq_true_eq] at h5
  obtain ⟨⟨⟨⟨⟨g1, g2⟩, g3⟩, g4⟩, g5⟩, g6⟩ := h5
  simp [Cond.before, Cond.holds, Cond.value, h1, h2, h3, h4, g1, g2, g3, g4, g5, g6]
def isCode : Jvm.Cond → Bool
  | .code _ _ _ _ => true
  | _ => false
theorem all_split {L : List Jvm.Cond} {P : Jvm.Cond → Bool} (h1 : L.all (fun c => isCode c || P c) = true) (h2 : ∀ c ∈ L.filter isCode, P c = true) : L.all P = true := by
  refine List.all_eq_true.mpr fun c hc => ?_
  have h := List.all_eq_true.mp h1 c hc
  rcases Bool.eq_false_or_eq_true (isCode c) with hi | hi
  · exact h2 c (List.mem_filter.mpr ⟨hc, hi⟩)
  · simpa [hi] using h
set_option maxRecDepth 65536 in
theorem w_c0 : (Jvm.Cond.code x code maxLocals ret).before args0 about1 = true := code_word (m := ⟨1, 2⟩) (meth := k1m2) (c := k1c2) (by decide +kernel) rfl rfl rfl (by decide +kernel)
set_option maxRecDepth 65536 in
theorem w_c1 : (Jvm.Cond.code ({ cls := "com/example/ledgerleaf/ledgerleaf/MarkupWatch", name := "<init>", desc := "()V" } : Jvm.MethodName) prog_66_method_1_code (1 : Nat) (Option.none : Option Jvm.ClassFile.FieldType)).before args0 about1 = true := code_word (m := ⟨2, 0⟩) (meth := k2m0) (c := k2c0) (by decide +kernel) rfl rfl rfl (by decide +kernel)
set_option maxRecDepth 65536 in
theorem w_c2 : (Jvm.Cond.code ({ cls := "java/lang/Object", name := "<init>", desc := "()V" } : Jvm.MethodName) object_method_1_code (1 : Nat) (Option.none : Option Jvm.ClassFile.FieldType)).before args0 about1 = true := code_word (m := ⟨0, 0⟩) (meth := k0m0) (c := k0c0) (by decide +kernel) rfl rfl rfl (by decide +kernel)
set_option maxRecDepth 65536 in
theorem w_c3 : (Jvm.Cond.code ({ cls := "com/example/ledgerleaf/ledgerleaf/MarkupWatch", name := "isAtOrAfterDoctype", desc := "(II)Z" } : Jvm.MethodName) prog_66_method_11_code (3 : Nat) (Option.some Jvm.ClassFile.FieldType.boolean)).before args0 about1 = true := code_word (m := ⟨2, 1⟩) (meth := k2m1) (c := k2c1) (by decide +kernel) rfl rfl rfl (by decide +kernel)
set_option maxRecDepth 65536 in
theorem w_c4 : (Jvm.Cond.code ({ cls := "com/example/ledgerleaf/ledgerleaf/MarkupWatchIsAtOrAfterDoctypePinLaw", name := "lexAtOrAfter", desc := "(IIII)Z" } : Jvm.MethodName) method_2_code (4 : Nat) (Option.some Jvm.ClassFile.FieldType.boolean)).before args0 about1 = true := code_word (m := ⟨1, 1⟩) (meth := k1m1) (c := k1c1) (by decide +kernel) rfl rfl rfl (by decide +kernel)
def codes1 : List Jvm.Cond := [Jvm.Cond.code x code maxLocals ret, Jvm.Cond.code ({ cls := "com/example/ledgerleaf/ledgerleaf/MarkupWatch", name := "<init>", desc := "()V" } : Jvm.MethodName) prog_66_method_1_code (1 : Nat) (Option.none : Option Jvm.ClassFile.FieldType), Jvm.Cond.code ({ cls := "java/lang/Object", name := "<init>", desc := "()V" } : Jvm.MethodName) object_method_1_code (1 : Nat) (Option.none : Option Jvm.ClassFile.FieldType), Jvm.Cond.code ({ cls := "com/example/ledgerleaf/ledgerleaf/MarkupWatch", name := "isAtOrAfterDoctype", desc := "(II)Z" } : Jvm.MethodName) prog_66_method_11_code (3 : Nat) (Option.some Jvm.ClassFile.FieldType.boolean), Jvm.Cond.code ({ cls := "com/example/ledgerleaf/ledgerleaf/MarkupWatchIsAtOrAfterDoctypePinLaw", name := "lexAtOrAfter", desc := "(IIII)Z" } : Jvm.MethodName) method_2_code (4 : Nat) (Option.some Jvm.ClassFile.FieldType.boolean)]
set_option maxRecDepth 65536 in
theorem codes_eq : words1.filter isCode = codes1 := rfl
theorem w_codes : ∀ c ∈ words1.filter isCode, c.before args0 about1 = true := by
  rw [codes_eq]
  intro c hc
  simp only [codes1, List.mem_cons, List.not_mem_nil, or_false] at hc
  rcases hc with rfl | rfl | rfl | rfl | rfl
  · exact w_c0
  · exact w_c1
  · exact w_c2
  · exact w_c3
  · exact w_c4
set_option maxRecDepth 65536 in
theorem w_t1 : (words1.take 24).all (fun c => isCode c || c.before args0 about1) = true := by decide +kernel
set_option maxRecDepth 65536 in
theorem w_t2 : (words1.drop 24).all (fun c => isCode c || c.before args0 about1) = true := by decide +kernel
theorem w_tables : (allAtoms (Jvm.Cond.code x code maxLocals ret :: tables_1)).before args0 about1 = true := by
  rw [allAtoms_all]
  show words1.all (fun c => c.before args0 about1) = true
  refine all_split ?_ w_codes
  rw [← List.take_append_drop 24 words1, List.all_append, w_t1, w_t2]
  rfl
set_option maxRecDepth 65536 in
theorem w_case : (Jvm.Cond.and given_1 narrow_1).before args0 about1 = true := by decide +kernel
theorem w_applies : (headSpec (Jvm.Cond.code x code maxLocals ret :: tables_1) room_1).applies x e0.platform about1 = true :=
  (Spec.applies_iff w_frames).mpr ⟨w_running, w_runnable, w_alone, w_named, w_hears, w_ripe, w_room, w_tables⟩
theorem atStart : AtStart classFile x code maxLocals ret World_1 tables_1 room_1 Calls_1 rest_1 Pre_1 launch0 p0 e0 about1 theMethod args0 below0 :=
  ⟨lists_1, trivial, launch0.admits_env _ _ _, launch0.least_env, fairChoices_fair.cas, fairChoices_fair.clock, w_frames, w_args, w_heap, w_applies, trivial, trivial, w_case⟩
end start1
theorem witness_1 : WitnessClaimed_1 := ⟨start1.p0, start1.e0, start1.about1, start1.theMethod, start1.args0, start1.below0, start1.atStart⟩
end Jvm.Pilot.@@N@@
