import JvmDerived
import JvmDerived.Pilot.@@N@@Statement
import JvmDerived.Pilot.@@N@@Code
set_option linter.unusedVariables false
set_option linter.unusedSimpArgs false
namespace Jvm.Pilot.@@N@@
open Jvm Jvm.ClassFile Sem Op Lib Jvm.Free Jvm.Stand Jvm.LawKit Jvm.RoadKit Bundle Jvm.Pilot.@@N@@.Jvm.D
section OwnKit
variable {p : Program} {l : Launch} {e : Env} {R : Room} {s : State} {m : MethodId} {args : Array Value} {below : List Frame} {meth : Method} {c : Code} {T : State} {locs : List Loc} {cells slots : Nat} {Z : State} {a0 : Array Value} {h : Heap} {Φ : Outcome → State → Prop}
def own_ushr (x y : Int32) : Int32 := (x.toUInt32 >>> (y &&& 31).toUInt32).toInt32
def own_ushrL (x : Int64) (y : Int32) : Int64 := (x.toUInt64 >>> (y &&& 0x3f).toInt64.toUInt64).toInt64
def own_Ends (p : Program) (e : Env) (below : List Frame) (Φ : Outcome → State → Prop) (t : State) : Prop := ∃ s₂ o, Steps p.tables e below t s₂ ∧ s₂.status = .running ∧ Ended s₂ below o ∧ Φ o s₂
theorem own_via {t t' : State} (k : ∀ u, Steps p.tables e below t' u → Steps p.tables e below t u) (h : own_Ends p e below Φ t') : own_Ends p e below Φ t := by
  obtain ⟨s₂, o, h1, h2⟩ := h; exact ⟨s₂, o, k _ h1, h2⟩
theorem own_thru {t t' : State} (k : Steps p.tables e below t t') (h : own_Ends p e below Φ t') : own_Ends p e below Φ t := own_via (fun _ q => k.trans q) h
def own_Post (s : State) (Q : Option Value → Heap → List Loc → Prop) (kc ks : Nat) (o : Outcome) (U : State) : Prop := ∃ v L, o = .returned v ∧ Q v U.heap L ∧ FrameEnd s o U L kc ks
def own_Met (l : Launch) (y : MethodName) (bytes : ByteArray) (maxL : Nat) (ret : Option FieldType) (rm : Room) (Z : State) (as' : Array Value) (h0 : Heap) (Q : Option Value → Heap → List Loc → Prop) : Prop :=
  ∀ ws : List Jvm.Cond, MetFree l y (head1 (Jvm.Cond.code y bytes maxL ret :: ws) rm) (fun a U => a = as' ∧ Z.Warmed39 U.vm ∧ U.heap = h0) (fun _ _ _ _ _ => True) (fun _ U o U' => ∃ v L, o = .returned v ∧ Q v U'.heap L ∧ FrameEnd U o U' L rm.cells rm.slots)
theorem own_met {y : MethodName} {bytes : ByteArray} {maxL : Nat} {ret : Option FieldType} {rm : Room} {as' : Array Value} {h0 : Heap} {Q : Option Value → Heap → List Loc → Prop} (hp : plainFor y = true)
    (body : ∀ (p : Program) (e : Env) (s : State) (m : MethodId) (below : List Frame) (meth : Method) (c : Code) (T : State), p.tables.exec = Jvm.exec → c.code = bytes → c.maxLocals = maxL → Z.Warmed39 s.vm → s.vm.findClass y.cls = some m.cls → meth.name = y.name → meth.sig.returnType = ret → meth.locks = false →
      Stand p l e rm s m as' below meth c T [] 0 0 → T.heap = h0 → s.heap = h0 → own_Ends p e below (own_Post s Q rm.cells rm.slots) (T.setTop (entryFrame m as' maxL))) : own_Met l y bytes maxL ret rm Z as' h0 Q := by
  intro ws
  refine MetFree.of_bodySF hp hisR ?_
  intro p e s m args below meth c s₁ Bd hml0 hP hK
  obtain ⟨rfl, hZ, hh⟩ := hP
  exact body p e s m below meth c s₁ Bd.exec Bd.bytes hml0 hZ (findClass_of_methodNamed Bd.named) (name_of_methodNamed Bd.named Bd.method).1 Bd.returns (BodyLoose.notSynchronized Bd) (Stand.of_body Bd) (by rw [← hh, Bd.state]; rfl) hh
theorem own_oz {n0 : Nat} (O : Old Z n0 h) : n0 ≤ h.size := O.1 ▸ O.2.1
theorem own_entry {g g' : JFrame} (q : g = g') (h : own_Ends p e below Φ (T.setTop g')) : own_Ends p e below Φ (T.setTop g) := q ▸ h
theorem own_iloadN (X : Stand p l e R s m args below meth c T locs cells slots) (hx : p.tables.exec = Jvm.exec) {pc pc' : Nat} {Ls : Array Slot} {rest : List Value} {k : Fin 4} {v : Int32} (hd : decode c.code pc = .ok (.iload_n k, 1)) (hl : Ls[k.val]? = some (.val (.int v))) (hp : pc + 1 = pc') (h : own_Ends p e below Φ (T.setTop (mkF m pc' Ls (.int v :: rest)))) : own_Ends p e below Φ (T.setTop (mkF m pc Ls (rest))) := by
  subst hp; exact own_via (fun _ k => XS.iloadN X.here hx (g := mkF m pc Ls (rest)) rfl hd hl k) h
theorem own_lloadN (X : Stand p l e R s m args below meth c T locs cells slots) (hx : p.tables.exec = Jvm.exec) {pc pc' : Nat} {Ls : Array Slot} {rest : List Value} {k : Fin 4} {v : Int64} (hd : decode c.code pc = .ok (.lload_n k, 1)) (hl : Ls[k.val]? = some (.val (.long v))) (hp : pc + 1 = pc') (h : own_Ends p e below Φ (T.setTop (mkF m pc' Ls (.long v :: rest)))) : own_Ends p e below Φ (T.setTop (mkF m pc Ls (rest))) := by
  subst hp; exact own_via (fun _ k => XS.lloadN X.here hx (g := mkF m pc Ls (rest)) rfl hd hl k) h
theorem own_aloadN (X : Stand p l e R s m args below meth c T locs cells slots) (hx : p.tables.exec = Jvm.exec) {pc pc' : Nat} {Ls : Array Slot} {rest : List Value} {k : Fin 4} {v : Value} (hd : decode c.code pc = .ok (.aload_n k, 1)) (hl : Ls[k.val]? = some (.val v)) (hv : v.isRef = true) (hp : pc + 1 = pc') (h : own_Ends p e below Φ (T.setTop (mkF m pc' Ls (v :: rest)))) : own_Ends p e below Φ (T.setTop (mkF m pc Ls (rest))) := by
  subst hp; exact own_via (fun _ k => XS.aloadN X.here hx (g := mkF m pc Ls (rest)) rfl hd hl hv k) h
theorem own_istoreN (X : Stand p l e R s m args below meth c T locs cells slots) (hx : p.tables.exec = Jvm.exec) {pc pc' : Nat} {Ls : Array Slot} {rest : List Value} {k : Fin 4} {v : Int32} (Ls' : Array Slot) (hd : decode c.code pc = .ok (.istore_n k, 1)) (hl : storeLocals Ls k.val (.int v) = some Ls') (hp : pc + 1 = pc') (h : own_Ends p e below Φ (T.setTop (mkF m pc' Ls' (rest)))) : own_Ends p e below Φ (T.setTop (mkF m pc Ls (.int v :: rest))) := by
  subst hp; exact own_via (fun _ k => XS.istoreN X.here hx (g := mkF m pc Ls (.int v :: rest)) rfl hd rfl hl k) h
theorem own_lstoreN (X : Stand p l e R s m args below meth c T locs cells slots) (hx : p.tables.exec = Jvm.exec) {pc pc' : Nat} {Ls : Array Slot} {rest : List Value} {k : Fin 4} {v : Int64} (Ls' : Array Slot) (hd : decode c.code pc = .ok (.lstore_n k, 1)) (hl : storeLocals Ls k.val (.long v) = some Ls') (hp : pc + 1 = pc') (h : own_Ends p e below Φ (T.setTop (mkF m pc' Ls' (rest)))) : own_Ends p e below Φ (T.setTop (mkF m pc Ls (.long v :: rest))) := by
  subst hp; exact own_via (fun _ k => XS.lstoreN X.here hx (g := mkF m pc Ls (.long v :: rest)) rfl hd rfl hl k) h
theorem own_astoreN (X : Stand p l e R s m args below meth c T locs cells slots) (hx : p.tables.exec = Jvm.exec) {pc pc' : Nat} {Ls : Array Slot} {rest : List Value} {k : Fin 4} {v : Value} (Ls' : Array Slot) (hd : decode c.code pc = .ok (.astore_n k, 1)) (hv : v.isRef = true) (hl : storeLocals Ls k.val v = some Ls') (hp : pc + 1 = pc') (h : own_Ends p e below Φ (T.setTop (mkF m pc' Ls' (rest)))) : own_Ends p e below Φ (T.setTop (mkF m pc Ls (v :: rest))) := by
  subst hp; exact own_via (fun _ k => XS.astoreN X.here hx (g := mkF m pc Ls (v :: rest)) rfl hd rfl hv hl k) h
theorem own_iload (X : Stand p l e R s m args below meth c T locs cells slots) (hx : p.tables.exec = Jvm.exec) {pc pc' : Nat} {Ls : Array Slot} {rest : List Value} {k : Nat} {v : Int32} (hd : decode c.code pc = .ok (.iload k, 2)) (hl : Ls[k]? = some (.val (.int v))) (hp : pc + 2 = pc') (h : own_Ends p e below Φ (T.setTop (mkF m pc' Ls (.int v :: rest)))) : own_Ends p e below Φ (T.setTop (mkF m pc Ls (rest))) := by
  subst hp; exact own_via (fun _ k => XS.iload X.here hx (g := mkF m pc Ls (rest)) rfl hd hl k) h
theorem own_lload (X : Stand p l e R s m args below meth c T locs cells slots) (hx : p.tables.exec = Jvm.exec) {pc pc' : Nat} {Ls : Array Slot} {rest : List Value} {k : Nat} {v : Int64} (hd : decode c.code pc = .ok (.lload k, 2)) (hl : Ls[k]? = some (.val (.long v))) (hp : pc + 2 = pc') (h : own_Ends p e below Φ (T.setTop (mkF m pc' Ls (.long v :: rest)))) : own_Ends p e below Φ (T.setTop (mkF m pc Ls (rest))) := by
  subst hp; exact own_via (fun _ k => XS.lload X.here hx (g := mkF m pc Ls (rest)) rfl hd hl k) h
theorem own_aload (X : Stand p l e R s m args below meth c T locs cells slots) (hx : p.tables.exec = Jvm.exec) {pc pc' : Nat} {Ls : Array Slot} {rest : List Value} {k : Nat} {v : Value} (hd : decode c.code pc = .ok (.aload k, 2)) (hl : Ls[k]? = some (.val v)) (hv : v.isRef = true) (hp : pc + 2 = pc') (h : own_Ends p e below Φ (T.setTop (mkF m pc' Ls (v :: rest)))) : own_Ends p e below Φ (T.setTop (mkF m pc Ls (rest))) := by
  subst hp; exact own_via (fun _ k => XS.aload X.here hx (g := mkF m pc Ls (rest)) rfl hd hl hv k) h
theorem own_istore (X : Stand p l e R s m args below meth c T locs cells slots) (hx : p.tables.exec = Jvm.exec) {pc pc' : Nat} {Ls : Array Slot} {rest : List Value} {k : Nat} {v : Int32} (Ls' : Array Slot) (hd : decode c.code pc = .ok (.istore k, 2)) (hl : storeLocals Ls k (.int v) = some Ls') (hp : pc + 2 = pc') (h : own_Ends p e below Φ (T.setTop (mkF m pc' Ls' (rest)))) : own_Ends p e below Φ (T.setTop (mkF m pc Ls (.int v :: rest))) := by
  subst hp; exact own_via (fun _ k => XS.istore X.here hx (g := mkF m pc Ls (.int v :: rest)) rfl hd rfl hl k) h
theorem own_lstore (X : Stand p l e R s m args below meth c T locs cells slots) (hx : p.tables.exec = Jvm.exec) {pc pc' : Nat} {Ls : Array Slot} {rest : List Value} {k : Nat} {v : Int64} (Ls' : Array Slot) (hd : decode c.code pc = .ok (.lstore k, 2)) (hl : storeLocals Ls k (.long v) = some Ls') (hp : pc + 2 = pc') (h : own_Ends p e below Φ (T.setTop (mkF m pc' Ls' (rest)))) : own_Ends p e below Φ (T.setTop (mkF m pc Ls (.long v :: rest))) := by
  subst hp; exact own_via (fun _ k => XS.lstore X.here hx (g := mkF m pc Ls (.long v :: rest)) rfl hd rfl hl k) h
theorem own_astore (X : Stand p l e R s m args below meth c T locs cells slots) (hx : p.tables.exec = Jvm.exec) {pc pc' : Nat} {Ls : Array Slot} {rest : List Value} {k : Nat} {v : Value} (Ls' : Array Slot) (hd : decode c.code pc = .ok (.astore k, 2)) (hv : v.isRef = true) (hl : storeLocals Ls k v = some Ls') (hp : pc + 2 = pc') (h : own_Ends p e below Φ (T.setTop (mkF m pc' Ls' (rest)))) : own_Ends p e below Φ (T.setTop (mkF m pc Ls (v :: rest))) := by
  subst hp; exact own_via (fun _ k => XS.astore X.here hx (g := mkF m pc Ls (v :: rest)) rfl hd rfl hv hl k) h
theorem own_iconst (X : Stand p l e R s m args below meth c T locs cells slots) (hx : p.tables.exec = Jvm.exec) {pc pc' : Nat} {Ls : Array Slot} {rest : List Value} {i : Int} (v : Int32) (hd : decode c.code pc = .ok (.iconst i, 1)) (hv : Int32.ofInt i = v) (hp : pc + 1 = pc') (h : own_Ends p e below Φ (T.setTop (mkF m pc' Ls (.int v :: rest)))) : own_Ends p e below Φ (T.setTop (mkF m pc Ls rest)) := by
  subst hp hv; exact own_via (fun _ k => XS.iconst X.here hx (g := mkF m pc Ls rest) rfl hd k) h
theorem own_bipush (X : Stand p l e R s m args below meth c T locs cells slots) (hx : p.tables.exec = Jvm.exec) {pc pc' : Nat} {Ls : Array Slot} {rest : List Value} {i : Int} (v : Int32) (hd : decode c.code pc = .ok (.bipush i, 2)) (hv : (Int8.ofInt i).toInt32 = v) (hp : pc + 2 = pc') (h : own_Ends p e below Φ (T.setTop (mkF m pc' Ls (.int v :: rest)))) : own_Ends p e below Φ (T.setTop (mkF m pc Ls rest)) := by
  subst hp hv; exact own_via (fun _ k => XS.bipush X.here hx (g := mkF m pc Ls rest) rfl hd k) h
theorem own_sipush (X : Stand p l e R s m args below meth c T locs cells slots) (hx : p.tables.exec = Jvm.exec) {pc pc' : Nat} {Ls : Array Slot} {rest : List Value} {i : Int} (v : Int32) (hd : decode c.code pc = .ok (.sipush i, 3)) (hv : (Int16.ofInt i).toInt32 = v) (hp : pc + 3 = pc') (h : own_Ends p e below Φ (T.setTop (mkF m pc' Ls (.int v :: rest)))) : own_Ends p e below Φ (T.setTop (mkF m pc Ls rest)) := by
  subst hp hv; exact own_via (fun _ k => XS.sipush X.here hx (g := mkF m pc Ls rest) rfl hd k) h
theorem own_lconst (X : Stand p l e R s m args below meth c T locs cells slots) (hx : p.tables.exec = Jvm.exec) {pc pc' : Nat} {Ls : Array Slot} {rest : List Value} {i : Fin 2} (v : Int64) (hd : decode c.code pc = .ok (.lconst i, 1)) (hv : Int64.ofNat i = v) (hp : pc + 1 = pc') (h : own_Ends p e below Φ (T.setTop (mkF m pc' Ls (.long v :: rest)))) : own_Ends p e below Φ (T.setTop (mkF m pc Ls rest)) := by
  subst hp hv; exact own_via (fun _ k => XS.lconst X.here hx (g := mkF m pc Ls rest) rfl hd k) h
theorem own_aconst_null (X : Stand p l e R s m args below meth c T locs cells slots) (hx : p.tables.exec = Jvm.exec) {pc pc' : Nat} {Ls : Array Slot} {rest : List Value}  (hd : decode c.code pc = .ok (.aconst_null, 1))  (hp : pc + 1 = pc') (h : own_Ends p e below Φ (T.setTop (mkF m pc' Ls (.null :: rest)))) : own_Ends p e below Φ (T.setTop (mkF m pc Ls (rest))) := by
  subst hp; exact own_via (fun _ k => XS.aconstNull X.here hx (g := mkF m pc Ls (rest)) rfl hd  k) h
theorem own_iadd (X : Stand p l e R s m args below meth c T locs cells slots) (hx : p.tables.exec = Jvm.exec) {pc pc' : Nat} {Ls : Array Slot} {rest : List Value} {x y : Int32} (hd : decode c.code pc = .ok (.iadd, 1))  (hp : pc + 1 = pc') (h : own_Ends p e below Φ (T.setTop (mkF m pc' Ls (.int (x + y) :: rest)))) : own_Ends p e below Φ (T.setTop (mkF m pc Ls (.int y :: .int x :: rest))) := by
  subst hp; exact own_via (fun _ k => XS.iadd X.here hx (g := mkF m pc Ls (.int y :: .int x :: rest)) rfl hd rfl k) h
theorem own_isub (X : Stand p l e R s m args below meth c T locs cells slots) (hx : p.tables.exec = Jvm.exec) {pc pc' : Nat} {Ls : Array Slot} {rest : List Value} {x y : Int32} (hd : decode c.code pc = .ok (.isub, 1))  (hp : pc + 1 = pc') (h : own_Ends p e below Φ (T.setTop (mkF m pc' Ls (.int (x - y) :: rest)))) : own_Ends p e below Φ (T.setTop (mkF m pc Ls (.int y :: .int x :: rest))) := by
  subst hp; exact own_via (fun _ k => XS.isub X.here hx (g := mkF m pc Ls (.int y :: .int x :: rest)) rfl hd rfl k) h
theorem own_imul (X : Stand p l e R s m args below meth c T locs cells slots) (hx : p.tables.exec = Jvm.exec) {pc pc' : Nat} {Ls : Array Slot} {rest : List Value} {x y : Int32} (hd : decode c.code pc = .ok (.imul, 1))  (hp : pc + 1 = pc') (h : own_Ends p e below Φ (T.setTop (mkF m pc' Ls (.int (x * y) :: rest)))) : own_Ends p e below Φ (T.setTop (mkF m pc Ls (.int y :: .int x :: rest))) := by
  subst hp; exact own_via (fun _ k => XS.imul X.here hx (g := mkF m pc Ls (.int y :: .int x :: rest)) rfl hd rfl k) h
theorem own_iand (X : Stand p l e R s m args below meth c T locs cells slots) (hx : p.tables.exec = Jvm.exec) {pc pc' : Nat} {Ls : Array Slot} {rest : List Value} {x y : Int32} (hd : decode c.code pc = .ok (.iand, 1))  (hp : pc + 1 = pc') (h : own_Ends p e below Φ (T.setTop (mkF m pc' Ls (.int (x &&& y) :: rest)))) : own_Ends p e below Φ (T.setTop (mkF m pc Ls (.int y :: .int x :: rest))) := by
  subst hp; exact own_via (fun _ k => XS.iand X.here hx (g := mkF m pc Ls (.int y :: .int x :: rest)) rfl hd rfl k) h
theorem own_ior (X : Stand p l e R s m args below meth c T locs cells slots) (hx : p.tables.exec = Jvm.exec) {pc pc' : Nat} {Ls : Array Slot} {rest : List Value} {x y : Int32} (hd : decode c.code pc = .ok (.ior, 1))  (hp : pc + 1 = pc') (h : own_Ends p e below Φ (T.setTop (mkF m pc' Ls (.int (x ||| y) :: rest)))) : own_Ends p e below Φ (T.setTop (mkF m pc Ls (.int y :: .int x :: rest))) := by
  subst hp; exact own_via (fun _ k => XS.ior X.here hx (g := mkF m pc Ls (.int y :: .int x :: rest)) rfl hd rfl k) h
theorem own_ixor (X : Stand p l e R s m args below meth c T locs cells slots) (hx : p.tables.exec = Jvm.exec) {pc pc' : Nat} {Ls : Array Slot} {rest : List Value} {x y : Int32} (hd : decode c.code pc = .ok (.ixor, 1))  (hp : pc + 1 = pc') (h : own_Ends p e below Φ (T.setTop (mkF m pc' Ls (.int (x ^^^ y) :: rest)))) : own_Ends p e below Φ (T.setTop (mkF m pc Ls (.int y :: .int x :: rest))) := by
  subst hp; exact own_via (fun _ k => XS.ixor X.here hx (g := mkF m pc Ls (.int y :: .int x :: rest)) rfl hd rfl k) h
theorem own_ishl (X : Stand p l e R s m args below meth c T locs cells slots) (hx : p.tables.exec = Jvm.exec) {pc pc' : Nat} {Ls : Array Slot} {rest : List Value} {x y : Int32} (hd : decode c.code pc = .ok (.ishl, 1))  (hp : pc + 1 = pc') (h : own_Ends p e below Φ (T.setTop (mkF m pc' Ls (.int (x <<< (y &&& 31)) :: rest)))) : own_Ends p e below Φ (T.setTop (mkF m pc Ls (.int y :: .int x :: rest))) := by
  subst hp; exact own_via (fun _ k => XS.ishl X.here hx (g := mkF m pc Ls (.int y :: .int x :: rest)) rfl hd rfl k) h
theorem own_ishr (X : Stand p l e R s m args below meth c T locs cells slots) (hx : p.tables.exec = Jvm.exec) {pc pc' : Nat} {Ls : Array Slot} {rest : List Value} {x y : Int32} (hd : decode c.code pc = .ok (.ishr, 1))  (hp : pc + 1 = pc') (h : own_Ends p e below Φ (T.setTop (mkF m pc' Ls (.int (x >>> (y &&& 31)) :: rest)))) : own_Ends p e below Φ (T.setTop (mkF m pc Ls (.int y :: .int x :: rest))) := by
  subst hp; exact own_via (fun _ k => XS.ishr X.here hx (g := mkF m pc Ls (.int y :: .int x :: rest)) rfl hd rfl k) h
theorem own_iushr (X : Stand p l e R s m args below meth c T locs cells slots) (hx : p.tables.exec = Jvm.exec) {pc pc' : Nat} {Ls : Array Slot} {rest : List Value} {x y : Int32} (hd : decode c.code pc = .ok (.iushr, 1))  (hp : pc + 1 = pc') (h : own_Ends p e below Φ (T.setTop (mkF m pc' Ls (.int (own_ushr x y) :: rest)))) : own_Ends p e below Φ (T.setTop (mkF m pc Ls (.int y :: .int x :: rest))) := by
  subst hp; exact own_via (fun _ k => XS.iushr X.here hx (g := mkF m pc Ls (.int y :: .int x :: rest)) rfl hd rfl k) h
theorem own_ladd (X : Stand p l e R s m args below meth c T locs cells slots) (hx : p.tables.exec = Jvm.exec) {pc pc' : Nat} {Ls : Array Slot} {rest : List Value} {x y : Int64} (hd : decode c.code pc = .ok (.ladd, 1))  (hp : pc + 1 = pc') (h : own_Ends p e below Φ (T.setTop (mkF m pc' Ls (.long (x + y) :: rest)))) : own_Ends p e below Φ (T.setTop (mkF m pc Ls (.long y :: .long x :: rest))) := by
  subst hp; exact own_via (fun _ k => XS.ladd X.here hx (g := mkF m pc Ls (.long y :: .long x :: rest)) rfl hd rfl k) h
theorem own_lsub (X : Stand p l e R s m args below meth c T locs cells slots) (hx : p.tables.exec = Jvm.exec) {pc pc' : Nat} {Ls : Array Slot} {rest : List Value} {x y : Int64} (hd : decode c.code pc = .ok (.lsub, 1))  (hp : pc + 1 = pc') (h : own_Ends p e below Φ (T.setTop (mkF m pc' Ls (.long (x - y) :: rest)))) : own_Ends p e below Φ (T.setTop (mkF m pc Ls (.long y :: .long x :: rest))) := by
  subst hp; exact own_via (fun _ k => XS.lsub X.here hx (g := mkF m pc Ls (.long y :: .long x :: rest)) rfl hd rfl k) h
theorem own_lmul (X : Stand p l e R s m args below meth c T locs cells slots) (hx : p.tables.exec = Jvm.exec) {pc pc' : Nat} {Ls : Array Slot} {rest : List Value} {x y : Int64} (hd : decode c.code pc = .ok (.lmul, 1))  (hp : pc + 1 = pc') (h : own_Ends p e below Φ (T.setTop (mkF m pc' Ls (.long (x * y) :: rest)))) : own_Ends p e below Φ (T.setTop (mkF m pc Ls (.long y :: .long x :: rest))) := by
  subst hp; exact own_via (fun _ k => XS.lmul X.here hx (g := mkF m pc Ls (.long y :: .long x :: rest)) rfl hd rfl k) h
theorem own_land (X : Stand p l e R s m args below meth c T locs cells slots) (hx : p.tables.exec = Jvm.exec) {pc pc' : Nat} {Ls : Array Slot} {rest : List Value} {x y : Int64} (hd : decode c.code pc = .ok (.land, 1))  (hp : pc + 1 = pc') (h : own_Ends p e below Φ (T.setTop (mkF m pc' Ls (.long (x &&& y) :: rest)))) : own_Ends p e below Φ (T.setTop (mkF m pc Ls (.long y :: .long x :: rest))) := by
  subst hp; exact own_via (fun _ k => XS.land X.here hx (g := mkF m pc Ls (.long y :: .long x :: rest)) rfl hd rfl k) h
theorem own_lor (X : Stand p l e R s m args below meth c T locs cells slots) (hx : p.tables.exec = Jvm.exec) {pc pc' : Nat} {Ls : Array Slot} {rest : List Value} {x y : Int64} (hd : decode c.code pc = .ok (.lor, 1))  (hp : pc + 1 = pc') (h : own_Ends p e below Φ (T.setTop (mkF m pc' Ls (.long (x ||| y) :: rest)))) : own_Ends p e below Φ (T.setTop (mkF m pc Ls (.long y :: .long x :: rest))) := by
  subst hp; exact own_via (fun _ k => XS.lor X.here hx (g := mkF m pc Ls (.long y :: .long x :: rest)) rfl hd rfl k) h
theorem own_lxor (X : Stand p l e R s m args below meth c T locs cells slots) (hx : p.tables.exec = Jvm.exec) {pc pc' : Nat} {Ls : Array Slot} {rest : List Value} {x y : Int64} (hd : decode c.code pc = .ok (.lxor, 1))  (hp : pc + 1 = pc') (h : own_Ends p e below Φ (T.setTop (mkF m pc' Ls (.long (x ^^^ y) :: rest)))) : own_Ends p e below Φ (T.setTop (mkF m pc Ls (.long y :: .long x :: rest))) := by
  subst hp; exact own_via (fun _ k => XS.lxor X.here hx (g := mkF m pc Ls (.long y :: .long x :: rest)) rfl hd rfl k) h
theorem own_lshl (X : Stand p l e R s m args below meth c T locs cells slots) (hx : p.tables.exec = Jvm.exec) {pc pc' : Nat} {Ls : Array Slot} {rest : List Value} {x : Int64} {y : Int32} (hd : decode c.code pc = .ok (.lshl, 1))  (hp : pc + 1 = pc') (h : own_Ends p e below Φ (T.setTop (mkF m pc' Ls (.long (x <<< (y &&& 0x3f).toInt64) :: rest)))) : own_Ends p e below Φ (T.setTop (mkF m pc Ls (.int y :: .long x :: rest))) := by
  subst hp; exact own_via (fun _ k => XS.lshl X.here hx (g := mkF m pc Ls (.int y :: .long x :: rest)) rfl hd rfl k) h
theorem own_lshr (X : Stand p l e R s m args below meth c T locs cells slots) (hx : p.tables.exec = Jvm.exec) {pc pc' : Nat} {Ls : Array Slot} {rest : List Value} {x : Int64} {y : Int32} (hd : decode c.code pc = .ok (.lshr, 1))  (hp : pc + 1 = pc') (h : own_Ends p e below Φ (T.setTop (mkF m pc' Ls (.long (x >>> (y &&& 0x3f).toInt64) :: rest)))) : own_Ends p e below Φ (T.setTop (mkF m pc Ls (.int y :: .long x :: rest))) := by
  subst hp; exact own_via (fun _ k => XS.lshr X.here hx (g := mkF m pc Ls (.int y :: .long x :: rest)) rfl hd rfl k) h
theorem own_lushr (X : Stand p l e R s m args below meth c T locs cells slots) (hx : p.tables.exec = Jvm.exec) {pc pc' : Nat} {Ls : Array Slot} {rest : List Value} {x : Int64} {y : Int32} (hd : decode c.code pc = .ok (.lushr, 1))  (hp : pc + 1 = pc') (h : own_Ends p e below Φ (T.setTop (mkF m pc' Ls (.long (own_ushrL x y) :: rest)))) : own_Ends p e below Φ (T.setTop (mkF m pc Ls (.int y :: .long x :: rest))) := by
  subst hp; exact own_via (fun _ k => XS.lushr X.here hx (g := mkF m pc Ls (.int y :: .long x :: rest)) rfl hd rfl k) h
theorem own_idiv (X : Stand p l e R s m args below meth c T locs cells slots) (hx : p.tables.exec = Jvm.exec) {pc pc' : Nat} {Ls : Array Slot} {rest : List Value} {x y : Int32} (hd : decode c.code pc = .ok (.idiv, 1)) (hy : y ≠ 0) (hp : pc + 1 = pc') (h : own_Ends p e below Φ (T.setTop (mkF m pc' Ls (.int (x / y) :: rest)))) : own_Ends p e below Φ (T.setTop (mkF m pc Ls (.int y :: .int x :: rest))) := by
  subst hp; exact own_via (fun _ k => XS.idiv X.here hx (g := mkF m pc Ls (.int y :: .int x :: rest)) rfl hd rfl hy k) h
theorem own_irem (X : Stand p l e R s m args below meth c T locs cells slots) (hx : p.tables.exec = Jvm.exec) {pc pc' : Nat} {Ls : Array Slot} {rest : List Value} {x y : Int32} (hd : decode c.code pc = .ok (.irem, 1)) (hy : y ≠ 0) (hp : pc + 1 = pc') (h : own_Ends p e below Φ (T.setTop (mkF m pc' Ls (.int (x % y) :: rest)))) : own_Ends p e below Φ (T.setTop (mkF m pc Ls (.int y :: .int x :: rest))) := by
  subst hp; exact own_via (fun _ k => iremM X hx (g := mkF m pc Ls (.int y :: .int x :: rest)) rfl hd rfl hy k) h
theorem own_ineg (X : Stand p l e R s m args below meth c T locs cells slots) (hx : p.tables.exec = Jvm.exec) {pc pc' : Nat} {Ls : Array Slot} {rest : List Value} {x : Int32} (hd : decode c.code pc = .ok (.ineg, 1))  (hp : pc + 1 = pc') (h : own_Ends p e below Φ (T.setTop (mkF m pc' Ls (.int (-x) :: rest)))) : own_Ends p e below Φ (T.setTop (mkF m pc Ls (.int x :: rest))) := by
  subst hp; exact own_via (fun _ k => XS.ineg X.here hx (g := mkF m pc Ls (.int x :: rest)) rfl hd rfl k) h
theorem own_lneg (X : Stand p l e R s m args below meth c T locs cells slots) (hx : p.tables.exec = Jvm.exec) {pc pc' : Nat} {Ls : Array Slot} {rest : List Value} {x : Int64} (hd : decode c.code pc = .ok (.lneg, 1))  (hp : pc + 1 = pc') (h : own_Ends p e below Φ (T.setTop (mkF m pc' Ls (.long (-x) :: rest)))) : own_Ends p e below Φ (T.setTop (mkF m pc Ls (.long x :: rest))) := by
  subst hp; exact own_via (fun _ k => XS.lneg X.here hx (g := mkF m pc Ls (.long x :: rest)) rfl hd rfl k) h
theorem own_i2l (X : Stand p l e R s m args below meth c T locs cells slots) (hx : p.tables.exec = Jvm.exec) {pc pc' : Nat} {Ls : Array Slot} {rest : List Value} {x : Int32} (hd : decode c.code pc = .ok (.i2l, 1))  (hp : pc + 1 = pc') (h : own_Ends p e below Φ (T.setTop (mkF m pc' Ls (.long (x.toInt64) :: rest)))) : own_Ends p e below Φ (T.setTop (mkF m pc Ls (.int x :: rest))) := by
  subst hp; exact own_via (fun _ k => XS.i2l X.here hx (g := mkF m pc Ls (.int x :: rest)) rfl hd rfl k) h
theorem own_l2i (X : Stand p l e R s m args below meth c T locs cells slots) (hx : p.tables.exec = Jvm.exec) {pc pc' : Nat} {Ls : Array Slot} {rest : List Value} {x : Int64} (hd : decode c.code pc = .ok (.l2i, 1))  (hp : pc + 1 = pc') (h : own_Ends p e below Φ (T.setTop (mkF m pc' Ls (.int (x.toInt32) :: rest)))) : own_Ends p e below Φ (T.setTop (mkF m pc Ls (.long x :: rest))) := by
  subst hp; exact own_via (fun _ k => XS.l2i X.here hx (g := mkF m pc Ls (.long x :: rest)) rfl hd rfl k) h
theorem own_i2b (X : Stand p l e R s m args below meth c T locs cells slots) (hx : p.tables.exec = Jvm.exec) {pc pc' : Nat} {Ls : Array Slot} {rest : List Value} {x : Int32} (hd : decode c.code pc = .ok (.i2b, 1))  (hp : pc + 1 = pc') (h : own_Ends p e below Φ (T.setTop (mkF m pc' Ls (.int (x.toInt8.toInt32) :: rest)))) : own_Ends p e below Φ (T.setTop (mkF m pc Ls (.int x :: rest))) := by
  subst hp; exact own_via (fun _ k => XS.i2b X.here hx (g := mkF m pc Ls (.int x :: rest)) rfl hd rfl k) h
theorem own_i2c (X : Stand p l e R s m args below meth c T locs cells slots) (hx : p.tables.exec = Jvm.exec) {pc pc' : Nat} {Ls : Array Slot} {rest : List Value} {x : Int32} (hd : decode c.code pc = .ok (.i2c, 1))  (hp : pc + 1 = pc') (h : own_Ends p e below Φ (T.setTop (mkF m pc' Ls (.int (x.toUInt32.toUInt16.toUInt32.toInt32) :: rest)))) : own_Ends p e below Φ (T.setTop (mkF m pc Ls (.int x :: rest))) := by
  subst hp; exact own_via (fun _ k => XS.i2c X.here hx (g := mkF m pc Ls (.int x :: rest)) rfl hd rfl k) h
theorem own_i2s (X : Stand p l e R s m args below meth c T locs cells slots) (hx : p.tables.exec = Jvm.exec) {pc pc' : Nat} {Ls : Array Slot} {rest : List Value} {x : Int32} (hd : decode c.code pc = .ok (.i2s, 1))  (hp : pc + 1 = pc') (h : own_Ends p e below Φ (T.setTop (mkF m pc' Ls (.int (x.toInt16.toInt32) :: rest)))) : own_Ends p e below Φ (T.setTop (mkF m pc Ls (.int x :: rest))) := by
  subst hp; exact own_via (fun _ k => XS.i2s X.here hx (g := mkF m pc Ls (.int x :: rest)) rfl hd rfl k) h
theorem own_lcmp (X : Stand p l e R s m args below meth c T locs cells slots) (hx : p.tables.exec = Jvm.exec) {pc pc' : Nat} {Ls : Array Slot} {rest : List Value} {x y : Int64} (hd : decode c.code pc = .ok (.lcmp, 1))  (hp : pc + 1 = pc') (h : own_Ends p e below Φ (T.setTop (mkF m pc' Ls (.int (lcmpW x y) :: rest)))) : own_Ends p e below Φ (T.setTop (mkF m pc Ls (.long y :: .long x :: rest))) := by
  subst hp; exact own_via (fun _ k => XS.lcmp X.here hx (g := mkF m pc Ls (.long y :: .long x :: rest)) rfl hd rfl k) h
theorem own_dup (X : Stand p l e R s m args below meth c T locs cells slots) (hx : p.tables.exec = Jvm.exec) {pc pc' : Nat} {Ls : Array Slot} {rest : List Value} {x : Value} (hd : decode c.code pc = .ok (.dup, 1)) (hc : x.category = 1) (hp : pc + 1 = pc') (h : own_Ends p e below Φ (T.setTop (mkF m pc' Ls (x :: x :: rest)))) : own_Ends p e below Φ (T.setTop (mkF m pc Ls (x :: rest))) := by
  subst hp; exact own_via (fun _ k => XS.dup X.here hx (g := mkF m pc Ls (x :: rest)) rfl hd rfl hc k) h
theorem own_pop (X : Stand p l e R s m args below meth c T locs cells slots) (hx : p.tables.exec = Jvm.exec) {pc pc' : Nat} {Ls : Array Slot} {rest : List Value} {x : Value} (hd : decode c.code pc = .ok (.pop, 1)) (hc : x.category = 1) (hp : pc + 1 = pc') (h : own_Ends p e below Φ (T.setTop (mkF m pc' Ls (rest)))) : own_Ends p e below Φ (T.setTop (mkF m pc Ls (x :: rest))) := by
  subst hp; exact own_via (fun _ k => XS.pop X.here hx (g := mkF m pc Ls (x :: rest)) rfl hd rfl hc k) h
theorem own_dup_x1 (X : Stand p l e R s m args below meth c T locs cells slots) (hx : p.tables.exec = Jvm.exec) {pc pc' : Nat} {Ls : Array Slot} {rest : List Value} {x y : Value} (hd : decode c.code pc = .ok (.dup_x1, 1)) (hc : x.category = 1) (hc' : y.category = 1) (hp : pc + 1 = pc') (h : own_Ends p e below Φ (T.setTop (mkF m pc' Ls (x :: y :: x :: rest)))) : own_Ends p e below Φ (T.setTop (mkF m pc Ls (x :: y :: rest))) := by
  subst hp; exact own_via (fun _ k => XS.dupX1 X.here hx (g := mkF m pc Ls (x :: y :: rest)) rfl hd rfl hc hc' k) h
theorem own_iinc (X : Stand p l e R s m args below meth c T locs cells slots) (hx : p.tables.exec = Jvm.exec) {pc pc' : Nat} {Ls : Array Slot} {rest : List Value} {k : Nat} {cst : Int} {x : Int32} (Ls' : Array Slot) (hd : decode c.code pc = .ok (.iinc k cst, 3)) (hl : Ls[k]? = some (.val (.int x))) (hl' : storeLocals Ls k (.int (x + Int32.ofInt cst)) = some Ls') (hp : pc + 3 = pc') (h : own_Ends p e below Φ (T.setTop (mkF m pc' Ls' rest))) : own_Ends p e below Φ (T.setTop (mkF m pc Ls rest)) := by
  subst hp; exact own_via (fun _ k => XS.iinc X.here hx (g := mkF m pc Ls rest) rfl hd hl hl' k) h
theorem own_goto (X : Stand p l e R s m args below meth c T locs cells slots) (hx : p.tables.exec = Jvm.exec) {pc pc' : Nat} {Ls : Array Slot} {rest : List Value} {o : Int} (hd : decode c.code pc = .ok (.goto o, 3)) (ho : 0 ≤ (pc : Int) + o) (hp : ((pc : Int) + o).toNat = pc') (h : own_Ends p e below Φ (T.setTop (mkF m pc' Ls rest))) : own_Ends p e below Φ (T.setTop (mkF m pc Ls rest)) := own_via (fun _ k => XS.goto X.here hx (g := mkF m pc Ls rest) rfl (pc0 := pc) (pc' := pc') rfl hd ho hp k) h
theorem own_icmp_eq (X : Stand p l e R s m args below meth c T locs cells slots) (hx : p.tables.exec = Jvm.exec) {pc pcT pcF : Nat} {Ls : Array Slot} {rest : List Value} {x y : Int32} {o : Int} (hd : decode c.code pc = .ok (.if_icmp .eq o, 3)) (ho : 0 ≤ (pc : Int) + o) (hT : ((pc : Int) + o).toNat = pcT) (hF : pc + 3 = pcF) (kT : x = y → own_Ends p e below Φ (T.setTop (mkF m pcT Ls rest))) (kF : ¬ x = y → own_Ends p e below Φ (T.setTop (mkF m pcF Ls rest))) : own_Ends p e below Φ (T.setTop (mkF m pc Ls (.int y :: .int x :: rest))) := by
  subst hF; by_cases q : x = y
  · exact own_via (fun _ k => XS.icmpYes X.here hx (g := mkF m pc Ls (.int y :: .int x :: rest)) rfl (pc0 := pc) (pc' := pcT) rfl hd rfl (teq q).1 ho hT k) (kT q)
  · exact own_via (fun _ k => XS.icmpNo X.here hx (g := mkF m pc Ls (.int y :: .int x :: rest)) rfl hd rfl (feq q).1 k) (kF q)
theorem own_if_eq (X : Stand p l e R s m args below meth c T locs cells slots) (hx : p.tables.exec = Jvm.exec) {pc pcT pcF : Nat} {Ls : Array Slot} {rest : List Value} {x : Int32} {o : Int} (hd : decode c.code pc = .ok (.ifCond .eq o, 3)) (ho : 0 ≤ (pc : Int) + o) (hT : ((pc : Int) + o).toNat = pcT) (hF : pc + 3 = pcF) (kT : x = (0 : Int32) → own_Ends p e below Φ (T.setTop (mkF m pcT Ls rest))) (kF : ¬ x = (0 : Int32) → own_Ends p e below Φ (T.setTop (mkF m pcF Ls rest))) : own_Ends p e below Φ (T.setTop (mkF m pc Ls (.int x :: rest))) := by
  subst hF; by_cases q : x = (0 : Int32)
  · exact own_via (fun _ k => XS.ifYes X.here hx (g := mkF m pc Ls (.int x :: rest)) rfl (pc0 := pc) (pc' := pcT) rfl hd rfl ((if0 _ _).trans (teq q).1) ho hT k) (kT q)
  · exact own_via (fun _ k => XS.ifNo X.here hx (g := mkF m pc Ls (.int x :: rest)) rfl hd rfl ((if0 _ _).trans (feq q).1) k) (kF q)
theorem own_icmp_ne (X : Stand p l e R s m args below meth c T locs cells slots) (hx : p.tables.exec = Jvm.exec) {pc pcT pcF : Nat} {Ls : Array Slot} {rest : List Value} {x y : Int32} {o : Int} (hd : decode c.code pc = .ok (.if_icmp .ne o, 3)) (ho : 0 ≤ (pc : Int) + o) (hT : ((pc : Int) + o).toNat = pcT) (hF : pc + 3 = pcF) (kT : ¬ x = y → own_Ends p e below Φ (T.setTop (mkF m pcT Ls rest))) (kF : x = y → own_Ends p e below Φ (T.setTop (mkF m pcF Ls rest))) : own_Ends p e below Φ (T.setTop (mkF m pc Ls (.int y :: .int x :: rest))) := by
  subst hF; by_cases q : x = y
  · exact own_via (fun _ k => XS.icmpNo X.here hx (g := mkF m pc Ls (.int y :: .int x :: rest)) rfl hd rfl (teq q).2 k) (kF q)
  · exact own_via (fun _ k => XS.icmpYes X.here hx (g := mkF m pc Ls (.int y :: .int x :: rest)) rfl (pc0 := pc) (pc' := pcT) rfl hd rfl (feq q).2 ho hT k) (kT q)
theorem own_if_ne (X : Stand p l e R s m args below meth c T locs cells slots) (hx : p.tables.exec = Jvm.exec) {pc pcT pcF : Nat} {Ls : Array Slot} {rest : List Value} {x : Int32} {o : Int} (hd : decode c.code pc = .ok (.ifCond .ne o, 3)) (ho : 0 ≤ (pc : Int) + o) (hT : ((pc : Int) + o).toNat = pcT) (hF : pc + 3 = pcF) (kT : ¬ x = (0 : Int32) → own_Ends p e below Φ (T.setTop (mkF m pcT Ls rest))) (kF : x = (0 : Int32) → own_Ends p e below Φ (T.setTop (mkF m pcF Ls rest))) : own_Ends p e below Φ (T.setTop (mkF m pc Ls (.int x :: rest))) := by
  subst hF; by_cases q : x = (0 : Int32)
  · exact own_via (fun _ k => XS.ifNo X.here hx (g := mkF m pc Ls (.int x :: rest)) rfl hd rfl ((if0 _ _).trans (teq q).2) k) (kF q)
  · exact own_via (fun _ k => XS.ifYes X.here hx (g := mkF m pc Ls (.int x :: rest)) rfl (pc0 := pc) (pc' := pcT) rfl hd rfl ((if0 _ _).trans (feq q).2) ho hT k) (kT q)
theorem own_icmp_lt (X : Stand p l e R s m args below meth c T locs cells slots) (hx : p.tables.exec = Jvm.exec) {pc pcT pcF : Nat} {Ls : Array Slot} {rest : List Value} {x y : Int32} {o : Int} (hd : decode c.code pc = .ok (.if_icmp .lt o, 3)) (ho : 0 ≤ (pc : Int) + o) (hT : ((pc : Int) + o).toNat = pcT) (hF : pc + 3 = pcF) (kT : x < y → own_Ends p e below Φ (T.setTop (mkF m pcT Ls rest))) (kF : ¬ x < y → own_Ends p e below Φ (T.setTop (mkF m pcF Ls rest))) : own_Ends p e below Φ (T.setTop (mkF m pc Ls (.int y :: .int x :: rest))) := by
  subst hF; by_cases q : x < y
  · exact own_via (fun _ k => XS.icmpYes X.here hx (g := mkF m pc Ls (.int y :: .int x :: rest)) rfl (pc0 := pc) (pc' := pcT) rfl hd rfl (tlt q).1 ho hT k) (kT q)
  · exact own_via (fun _ k => XS.icmpNo X.here hx (g := mkF m pc Ls (.int y :: .int x :: rest)) rfl hd rfl (flt q).1 k) (kF q)
theorem own_if_lt (X : Stand p l e R s m args below meth c T locs cells slots) (hx : p.tables.exec = Jvm.exec) {pc pcT pcF : Nat} {Ls : Array Slot} {rest : List Value} {x : Int32} {o : Int} (hd : decode c.code pc = .ok (.ifCond .lt o, 3)) (ho : 0 ≤ (pc : Int) + o) (hT : ((pc : Int) + o).toNat = pcT) (hF : pc + 3 = pcF) (kT : x < (0 : Int32) → own_Ends p e below Φ (T.setTop (mkF m pcT Ls rest))) (kF : ¬ x < (0 : Int32) → own_Ends p e below Φ (T.setTop (mkF m pcF Ls rest))) : own_Ends p e below Φ (T.setTop (mkF m pc Ls (.int x :: rest))) := by
  subst hF; by_cases q : x < (0 : Int32)
  · exact own_via (fun _ k => XS.ifYes X.here hx (g := mkF m pc Ls (.int x :: rest)) rfl (pc0 := pc) (pc' := pcT) rfl hd rfl ((if0 _ _).trans (tlt q).1) ho hT k) (kT q)
  · exact own_via (fun _ k => XS.ifNo X.here hx (g := mkF m pc Ls (.int x :: rest)) rfl hd rfl ((if0 _ _).trans (flt q).1) k) (kF q)
theorem own_icmp_ge (X : Stand p l e R s m args below meth c T locs cells slots) (hx : p.tables.exec = Jvm.exec) {pc pcT pcF : Nat} {Ls : Array Slot} {rest : List Value} {x y : Int32} {o : Int} (hd : decode c.code pc = .ok (.if_icmp .ge o, 3)) (ho : 0 ≤ (pc : Int) + o) (hT : ((pc : Int) + o).toNat = pcT) (hF : pc + 3 = pcF) (kT : ¬ x < y → own_Ends p e below Φ (T.setTop (mkF m pcT Ls rest))) (kF : x < y → own_Ends p e below Φ (T.setTop (mkF m pcF Ls rest))) : own_Ends p e below Φ (T.setTop (mkF m pc Ls (.int y :: .int x :: rest))) := by
  subst hF; by_cases q : x < y
  · exact own_via (fun _ k => XS.icmpNo X.here hx (g := mkF m pc Ls (.int y :: .int x :: rest)) rfl hd rfl (tlt q).2.1 k) (kF q)
  · exact own_via (fun _ k => XS.icmpYes X.here hx (g := mkF m pc Ls (.int y :: .int x :: rest)) rfl (pc0 := pc) (pc' := pcT) rfl hd rfl (flt q).2.1 ho hT k) (kT q)
theorem own_if_ge (X : Stand p l e R s m args below meth c T locs cells slots) (hx : p.tables.exec = Jvm.exec) {pc pcT pcF : Nat} {Ls : Array Slot} {rest : List Value} {x : Int32} {o : Int} (hd : decode c.code pc = .ok (.ifCond .ge o, 3)) (ho : 0 ≤ (pc : Int) + o) (hT : ((pc : Int) + o).toNat = pcT) (hF : pc + 3 = pcF) (kT : ¬ x < (0 : Int32) → own_Ends p e below Φ (T.setTop (mkF m pcT Ls rest))) (kF : x < (0 : Int32) → own_Ends p e below Φ (T.setTop (mkF m pcF Ls rest))) : own_Ends p e below Φ (T.setTop (mkF m pc Ls (.int x :: rest))) := by
  subst hF; by_cases q : x < (0 : Int32)
  · exact own_via (fun _ k => XS.ifNo X.here hx (g := mkF m pc Ls (.int x :: rest)) rfl hd rfl ((if0 _ _).trans (tlt q).2.1) k) (kF q)
  · exact own_via (fun _ k => XS.ifYes X.here hx (g := mkF m pc Ls (.int x :: rest)) rfl (pc0 := pc) (pc' := pcT) rfl hd rfl ((if0 _ _).trans (flt q).2.1) ho hT k) (kT q)
theorem own_icmp_gt (X : Stand p l e R s m args below meth c T locs cells slots) (hx : p.tables.exec = Jvm.exec) {pc pcT pcF : Nat} {Ls : Array Slot} {rest : List Value} {x y : Int32} {o : Int} (hd : decode c.code pc = .ok (.if_icmp .gt o, 3)) (ho : 0 ≤ (pc : Int) + o) (hT : ((pc : Int) + o).toNat = pcT) (hF : pc + 3 = pcF) (kT : y < x → own_Ends p e below Φ (T.setTop (mkF m pcT Ls rest))) (kF : ¬ y < x → own_Ends p e below Φ (T.setTop (mkF m pcF Ls rest))) : own_Ends p e below Φ (T.setTop (mkF m pc Ls (.int y :: .int x :: rest))) := by
  subst hF; by_cases q : y < x
  · exact own_via (fun _ k => XS.icmpYes X.here hx (g := mkF m pc Ls (.int y :: .int x :: rest)) rfl (pc0 := pc) (pc' := pcT) rfl hd rfl (tlt q).2.2.1 ho hT k) (kT q)
  · exact own_via (fun _ k => XS.icmpNo X.here hx (g := mkF m pc Ls (.int y :: .int x :: rest)) rfl hd rfl (flt q).2.2.1 k) (kF q)
theorem own_if_gt (X : Stand p l e R s m args below meth c T locs cells slots) (hx : p.tables.exec = Jvm.exec) {pc pcT pcF : Nat} {Ls : Array Slot} {rest : List Value} {x : Int32} {o : Int} (hd : decode c.code pc = .ok (.ifCond .gt o, 3)) (ho : 0 ≤ (pc : Int) + o) (hT : ((pc : Int) + o).toNat = pcT) (hF : pc + 3 = pcF) (kT : (0 : Int32) < x → own_Ends p e below Φ (T.setTop (mkF m pcT Ls rest))) (kF : ¬ (0 : Int32) < x → own_Ends p e below Φ (T.setTop (mkF m pcF Ls rest))) : own_Ends p e below Φ (T.setTop (mkF m pc Ls (.int x :: rest))) := by
  subst hF; by_cases q : (0 : Int32) < x
  · exact own_via (fun _ k => XS.ifYes X.here hx (g := mkF m pc Ls (.int x :: rest)) rfl (pc0 := pc) (pc' := pcT) rfl hd rfl ((if0 _ _).trans (tlt q).2.2.1) ho hT k) (kT q)
  · exact own_via (fun _ k => XS.ifNo X.here hx (g := mkF m pc Ls (.int x :: rest)) rfl hd rfl ((if0 _ _).trans (flt q).2.2.1) k) (kF q)
theorem own_icmp_le (X : Stand p l e R s m args below meth c T locs cells slots) (hx : p.tables.exec = Jvm.exec) {pc pcT pcF : Nat} {Ls : Array Slot} {rest : List Value} {x y : Int32} {o : Int} (hd : decode c.code pc = .ok (.if_icmp .le o, 3)) (ho : 0 ≤ (pc : Int) + o) (hT : ((pc : Int) + o).toNat = pcT) (hF : pc + 3 = pcF) (kT : ¬ y < x → own_Ends p e below Φ (T.setTop (mkF m pcT Ls rest))) (kF : y < x → own_Ends p e below Φ (T.setTop (mkF m pcF Ls rest))) : own_Ends p e below Φ (T.setTop (mkF m pc Ls (.int y :: .int x :: rest))) := by
  subst hF; by_cases q : y < x
  · exact own_via (fun _ k => XS.icmpNo X.here hx (g := mkF m pc Ls (.int y :: .int x :: rest)) rfl hd rfl (tlt q).2.2.2 k) (kF q)
  · exact own_via (fun _ k => XS.icmpYes X.here hx (g := mkF m pc Ls (.int y :: .int x :: rest)) rfl (pc0 := pc) (pc' := pcT) rfl hd rfl (flt q).2.2.2 ho hT k) (kT q)
theorem own_if_le (X : Stand p l e R s m args below meth c T locs cells slots) (hx : p.tables.exec = Jvm.exec) {pc pcT pcF : Nat} {Ls : Array Slot} {rest : List Value} {x : Int32} {o : Int} (hd : decode c.code pc = .ok (.ifCond .le o, 3)) (ho : 0 ≤ (pc : Int) + o) (hT : ((pc : Int) + o).toNat = pcT) (hF : pc + 3 = pcF) (kT : ¬ (0 : Int32) < x → own_Ends p e below Φ (T.setTop (mkF m pcT Ls rest))) (kF : (0 : Int32) < x → own_Ends p e below Φ (T.setTop (mkF m pcF Ls rest))) : own_Ends p e below Φ (T.setTop (mkF m pc Ls (.int x :: rest))) := by
  subst hF; by_cases q : (0 : Int32) < x
  · exact own_via (fun _ k => XS.ifNo X.here hx (g := mkF m pc Ls (.int x :: rest)) rfl hd rfl ((if0 _ _).trans (tlt q).2.2.2) k) (kF q)
  · exact own_via (fun _ k => XS.ifYes X.here hx (g := mkF m pc Ls (.int x :: rest)) rfl (pc0 := pc) (pc' := pcT) rfl hd rfl ((if0 _ _).trans (flt q).2.2.2) ho hT k) (kT q)
theorem own_icmpT (X : Stand p l e R s m args below meth c T locs cells slots) (hx : p.tables.exec = Jvm.exec) {pc pcT : Nat} {Ls : Array Slot} {rest : List Value} {x y : Int32} {cd : ClassFile.Cond} {o : Int} (hd : decode c.code pc = .ok (.if_icmp cd o, 3)) (ho : 0 ≤ (pc : Int) + o) (hT : ((pc : Int) + o).toNat = pcT) (q : if_icmp.holds cd x y = true) (h : own_Ends p e below Φ (T.setTop (mkF m pcT Ls rest))) : own_Ends p e below Φ (T.setTop (mkF m pc Ls (.int y :: .int x :: rest))) :=
  own_via (fun _ k => XS.icmpYes X.here hx (g := mkF m pc Ls (.int y :: .int x :: rest)) rfl (pc0 := pc) (pc' := pcT) rfl hd rfl q ho hT k) h
theorem own_icmpF (X : Stand p l e R s m args below meth c T locs cells slots) (hx : p.tables.exec = Jvm.exec) {pc pcF : Nat} {Ls : Array Slot} {rest : List Value} {x y : Int32} {cd : ClassFile.Cond} {o : Int} (hd : decode c.code pc = .ok (.if_icmp cd o, 3)) (hF : pc + 3 = pcF) (q : if_icmp.holds cd x y = false) (h : own_Ends p e below Φ (T.setTop (mkF m pcF Ls rest))) : own_Ends p e below Φ (T.setTop (mkF m pc Ls (.int y :: .int x :: rest))) := by
  subst hF; exact own_via (fun _ k => XS.icmpNo X.here hx (g := mkF m pc Ls (.int y :: .int x :: rest)) rfl hd rfl q k) h
theorem own_ifT (X : Stand p l e R s m args below meth c T locs cells slots) (hx : p.tables.exec = Jvm.exec) {pc pcT : Nat} {Ls : Array Slot} {rest : List Value} {x : Int32} {cd : ClassFile.Cond} {o : Int} (hd : decode c.code pc = .ok (.ifCond cd o, 3)) (ho : 0 ≤ (pc : Int) + o) (hT : ((pc : Int) + o).toNat = pcT) (q : if_icmp.holds cd x 0 = true) (h : own_Ends p e below Φ (T.setTop (mkF m pcT Ls rest))) : own_Ends p e below Φ (T.setTop (mkF m pc Ls (.int x :: rest))) :=
  own_via (fun _ k => XS.ifYes X.here hx (g := mkF m pc Ls (.int x :: rest)) rfl (pc0 := pc) (pc' := pcT) rfl hd rfl ((if0 _ _).trans q) ho hT k) h
theorem own_ifF (X : Stand p l e R s m args below meth c T locs cells slots) (hx : p.tables.exec = Jvm.exec) {pc pcF : Nat} {Ls : Array Slot} {rest : List Value} {x : Int32} {cd : ClassFile.Cond} {o : Int} (hd : decode c.code pc = .ok (.ifCond cd o, 3)) (hF : pc + 3 = pcF) (q : if_icmp.holds cd x 0 = false) (h : own_Ends p e below Φ (T.setTop (mkF m pcF Ls rest))) : own_Ends p e below Φ (T.setTop (mkF m pc Ls (.int x :: rest))) := by
  subst hF; exact own_via (fun _ k => XS.ifNo X.here hx (g := mkF m pc Ls (.int x :: rest)) rfl hd rfl ((if0 _ _).trans q) k) h
theorem own_ifnullT (X : Stand p l e R s m args below meth c T locs cells slots) (hx : p.tables.exec = Jvm.exec) {pc pcT : Nat} {Ls : Array Slot} {rest : List Value} {o : Int} (hd : decode c.code pc = .ok (.ifnull o, 3)) (ho : 0 ≤ (pc : Int) + o) (hT : ((pc : Int) + o).toNat = pcT) (h : own_Ends p e below Φ (T.setTop (mkF m pcT Ls rest))) : own_Ends p e below Φ (T.setTop (mkF m pc Ls (.null :: rest))) :=
  own_via (fun _ k => XS.ifnullYes X.here hx (g := mkF m pc Ls (.null :: rest)) rfl (pc0 := pc) (pc' := pcT) rfl hd rfl ho hT k) h
theorem own_ifnullF (X : Stand p l e R s m args below meth c T locs cells slots) (hx : p.tables.exec = Jvm.exec) {pc pcF : Nat} {Ls : Array Slot} {rest : List Value} {b : Addr} {o : Int} (hd : decode c.code pc = .ok (.ifnull o, 3)) (hF : pc + 3 = pcF) (h : own_Ends p e below Φ (T.setTop (mkF m pcF Ls rest))) : own_Ends p e below Φ (T.setTop (mkF m pc Ls (.ref b :: rest))) := by
  subst hF; exact own_via (fun _ k => XS.ifnullNo X.here hx (g := mkF m pc Ls (.ref b :: rest)) rfl hd rfl k) h
theorem own_ifnonnullT (X : Stand p l e R s m args below meth c T locs cells slots) (hx : p.tables.exec = Jvm.exec) {pc pcT : Nat} {Ls : Array Slot} {rest : List Value} {b : Addr} {o : Int} (hd : decode c.code pc = .ok (.ifnonnull o, 3)) (ho : 0 ≤ (pc : Int) + o) (hT : ((pc : Int) + o).toNat = pcT) (h : own_Ends p e below Φ (T.setTop (mkF m pcT Ls rest))) : own_Ends p e below Φ (T.setTop (mkF m pc Ls (.ref b :: rest))) :=
  own_via (fun _ k => XS.ifnonnullYes X.here hx (g := mkF m pc Ls (.ref b :: rest)) rfl (pc0 := pc) (pc' := pcT) rfl hd rfl ho hT k) h
theorem own_ifnonnullF (X : Stand p l e R s m args below meth c T locs cells slots) (hx : p.tables.exec = Jvm.exec) {pc pcF : Nat} {Ls : Array Slot} {rest : List Value} {o : Int} (hd : decode c.code pc = .ok (.ifnonnull o, 3)) (hF : pc + 3 = pcF) (h : own_Ends p e below Φ (T.setTop (mkF m pcF Ls rest))) : own_Ends p e below Φ (T.setTop (mkF m pc Ls (.null :: rest))) := by
  subst hF; exact own_via (fun _ k => XS.ifnonnullNo X.here hx (g := mkF m pc Ls (.null :: rest)) rfl hd rfl k) h
theorem own_acmp (X : Stand p l e R s m args below meth c T locs cells slots) (hx : p.tables.exec = Jvm.exec) {pc pcT pcF : Nat} {Ls : Array Slot} {rest : List Value} {x y : Value} {cd : ClassFile.ACond} {o : Int} (hd : decode c.code pc = .ok (.if_acmp cd o, 3)) (h1 : x.isRef = true) (h2 : y.isRef = true) (ho : 0 ≤ (pc : Int) + o) (hT : ((pc : Int) + o).toNat = pcT) (hF : pc + 3 = pcF)
    (kT : acV cd (decide (x = y)) = true → own_Ends p e below Φ (T.setTop (mkF m pcT Ls rest))) (kF : acV cd (decide (x = y)) = false → own_Ends p e below Φ (T.setTop (mkF m pcF Ls rest))) : own_Ends p e below Φ (T.setTop (mkF m pc Ls (y :: x :: rest))) := by
  subst hF hT
  rcases q : acV cd (decide (x = y)) with _ | _
  · exact own_via (fun _ k => Jvm.RoadKit.acmp (g := mkF m pc Ls (y :: x :: rest)) X hx rfl h1 h2 (pc0 := pc) (pc' := pc + 3) rfl hd rfl rfl ho (by rw [q]; rfl) k) (kF q)
  · exact own_via (fun _ k => Jvm.RoadKit.acmp (g := mkF m pc Ls (y :: x :: rest)) X hx rfl h1 h2 (pc0 := pc) (pc' := ((pc : Int) + o).toNat) rfl hd rfl rfl ho (by rw [q]; rfl) k) (kT q)
theorem own_acmp_eq (X : Stand p l e R s m args below meth c T locs cells slots) (hx : p.tables.exec = Jvm.exec) {pc pcT pcF : Nat} {Ls : Array Slot} {rest : List Value} {x y : Addr} {o : Int} (hd : decode c.code pc = .ok (.if_acmp .eq o, 3)) (ho : 0 ≤ (pc : Int) + o) (hT : ((pc : Int) + o).toNat = pcT) (hF : pc + 3 = pcF)
    (kT : x = y → own_Ends p e below Φ (T.setTop (mkF m pcT Ls rest))) (kF : ¬ x = y → own_Ends p e below Φ (T.setTop (mkF m pcF Ls rest))) : own_Ends p e below Φ (T.setTop (mkF m pc Ls (.ref y :: .ref x :: rest))) :=
  own_acmp X hx hd rfl rfl ho hT hF (fun q => kT (by simpa [acV] using q)) (fun q => kF (by simpa [acV] using q))
theorem own_acmp_ne (X : Stand p l e R s m args below meth c T locs cells slots) (hx : p.tables.exec = Jvm.exec) {pc pcT pcF : Nat} {Ls : Array Slot} {rest : List Value} {x y : Addr} {o : Int} (hd : decode c.code pc = .ok (.if_acmp .ne o, 3)) (ho : 0 ≤ (pc : Int) + o) (hT : ((pc : Int) + o).toNat = pcT) (hF : pc + 3 = pcF)
    (kT : ¬ x = y → own_Ends p e below Φ (T.setTop (mkF m pcT Ls rest))) (kF : x = y → own_Ends p e below Φ (T.setTop (mkF m pcF Ls rest))) : own_Ends p e below Φ (T.setTop (mkF m pc Ls (.ref y :: .ref x :: rest))) :=
  own_acmp X hx hd rfl rfl ho hT hF (fun q => kT (by simpa [acV] using q)) (fun q => kF (by simpa [acV] using q))
theorem own_ldcInt (X : Stand p l e R s m args below meth c T locs cells slots) (hx : p.tables.exec = Jvm.exec) (hZ : Z.Warmed39 s.vm) {own : String} {index : Nat} {v : Int32} (hown : s.vm.findClass own = some m.cls) (w : (Jvm.Cond.constant own index v).before a0 Z = true) {pc pc' : Nat} {Ls : Array Slot} {rest : List Value} (hd : decode c.code pc = .ok (.ldc index, 2)) (hp : pc + 2 = pc') (h : own_Ends p e below Φ (T.setTop (mkF m pc' Ls (.int v :: rest)))) : own_Ends p e below Φ (T.setTop (mkF m pc Ls rest)) := by
  subst hp; exact own_via (X.ldcInt hx hown (mvT hZ w) (g := mkF m pc Ls rest) rfl hd) h
theorem own_getF (X : Stand p l e R s m args below meth c T locs cells slots) (hx : p.tables.exec = Jvm.exec) (hZ : Z.Warmed39 s.vm) {own R0 O n d host : String} {index : Nat} (hown : s.vm.findClass own = some m.cls) (w : (Jvm.Cond.fieldLink own index R0 n d).before a0 Z = true ∨ (Jvm.Cond.fieldLinkNest own index R0 n d host).before a0 Z = true) (via : Via Z R0 O n d) (eT : T.heap = h) {a : Addr} {v : Value} (F : Fld Z h a O n d v) {pc pc' : Nat} {Ls : Array Slot} {rest : List Value}
    (hd : decode c.code pc = .ok (.getfield index, 3)) (hp : pc + 3 = pc') (k : ∀ T', Stand p l e R s m args below meth c T' locs cells slots → T'.heap = h → own_Ends p e below Φ (T'.setTop (mkF m pc' Ls (v :: rest)))) : own_Ends p e below Φ (T.setTop (mkF m pc Ls (.ref a :: rest))) := by
  subst hp; obtain ⟨T', X', e', st⟩ := getF X hx hZ hown w via eT F (g := mkF m pc Ls (.ref a :: rest)) rfl rfl hd
  exact own_via st (k T' X' e')
theorem own_getS (X : Stand p l e R s m args below meth c T locs cells slots) (hx : p.tables.exec = Jvm.exec) (hZ : Z.Warmed39 s.vm) {own R0 O n d host : String} {index : Nat} (hown : s.vm.findClass own = some m.cls) (w : (Jvm.Cond.fieldLink own index R0 n d).before a0 Z = true ∨ (Jvm.Cond.fieldLinkNest own index R0 n d host).before a0 Z = true) (via : Via Z R0 O n d) (eT : T.heap = h) {v : Value} (F : Sta Z h O n d v) {pc pc' : Nat} {Ls : Array Slot} {rest : List Value}
    (hd : decode c.code pc = .ok (.getstatic index, 3)) (hp : pc + 3 = pc') (k : ∀ T', Stand p l e R s m args below meth c T' locs cells slots → T'.heap = h → own_Ends p e below Φ (T'.setTop (mkF m pc' Ls (v :: rest)))) : own_Ends p e below Φ (T.setTop (mkF m pc Ls rest)) := by
  subst hp; obtain ⟨T', X', e', st⟩ := getS2 X hx hZ hown w via eT F (g := mkF m pc Ls rest) rfl hd
  exact own_via st (k T' X' e')
theorem own_putF (X : Stand p l e R s m args below meth c T locs cells slots) (hx : p.tables.exec = Jvm.exec) (hZ : Z.Warmed39 s.vm) {own R0 O n d host C : String} {index kk : Nat} {ty : FieldType} (hown : s.vm.findClass own = some m.cls) (w : (Jvm.Cond.fieldLink own index R0 n d).before a0 Z = true ∨ (Jvm.Cond.fieldLinkNest own index R0 n d host).before a0 Z = true) (via : Via Z R0 O n d) (eT : T.heap = h) {a : Addr} {v old : Value} (F : Fld Z h a O n d old) (E : Exa Z h a C)
    (L : (Jvm.Cond.lays C O n d).before a0 Z = true ∨ ((Jvm.Cond.laysFinal C O n d).before a0 Z = true ∧ own = O ∧ meth.name = "<init>")) (wi : (Jvm.Cond.instantiable C kk).before a0 Z = true) (hty : parseFieldDescriptor d = some ty) (hn : narrow ty v = v) (hf : fits ty v = true) {n0 : Nat} (N : Fr n0 locs) (g : n0 ≤ a) {pc pc' : Nat} {Ls : Array Slot} {rest : List Value}
    (hd : decode c.code pc = .ok (.putfield index, 3)) (hp : pc + 3 = pc') (k : ∀ T' h', Stand p l e R s m args below meth c T' (locs ++ [⟨a, Jvm.RoadKit.slotOf Z O n d⟩]) cells slots → T'.heap = h' → Wr h h' a (Jvm.RoadKit.slotOf Z O n d) v → Fr n0 (locs ++ [⟨a, Jvm.RoadKit.slotOf Z O n d⟩]) → own_Ends p e below Φ (T'.setTop (mkF m pc' Ls rest))) : own_Ends p e below Φ (T.setTop (mkF m pc Ls (v :: .ref a :: rest))) := by
  subst hp; obtain ⟨T', h', X', e', W', st⟩ := putF X hx hZ hown w via eT F E L wi hty hn hf (g := mkF m pc Ls (v :: .ref a :: rest)) rfl rfl hd
  exact own_via st (k T' h' X' e' W' (Fr.snoc X' N g))
theorem own_putFN (X : Stand p l e R s m args below meth c T locs cells slots) (hx : p.tables.exec = Jvm.exec) (hZ : Z.Warmed39 s.vm) {own R0 O n d C : String} {index kk : Nat} {ty : FieldType} (hown : s.vm.findClass own = some m.cls) (w : (Jvm.Cond.fieldLink own index R0 n d).before a0 Z = true) (via : Via Z R0 O n d) (eT : T.heap = h) {a : Addr} {v old : Value} (v' : Value) (F : Fld Z h a O n d old) (E : Exa Z h a C)
    (L : (Jvm.Cond.lays C O n d).before a0 Z = true ∨ ((Jvm.Cond.laysFinal C O n d).before a0 Z = true ∧ own = O ∧ meth.name = "<init>")) (wi : (Jvm.Cond.instantiable C kk).before a0 Z = true) (hty : parseFieldDescriptor d = some ty) (hn : narrow ty v = v') (hf : fits ty v' = true) {n0 : Nat} (N : Fr n0 locs) (g : n0 ≤ a) {pc pc' : Nat} {Ls : Array Slot} {rest : List Value}
    (hd : decode c.code pc = .ok (.putfield index, 3)) (hp : pc + 3 = pc') (k : ∀ T' h', Stand p l e R s m args below meth c T' (locs ++ [⟨a, Jvm.RoadKit.slotOf Z O n d⟩]) cells slots → T'.heap = h' → Wr h h' a (Jvm.RoadKit.slotOf Z O n d) v' → Fr n0 (locs ++ [⟨a, Jvm.RoadKit.slotOf Z O n d⟩]) → own_Ends p e below Φ (T'.setTop (mkF m pc' Ls rest))) : own_Ends p e below Φ (T.setTop (mkF m pc Ls (v :: .ref a :: rest))) := by
  subst hp; obtain ⟨T', h', X', e', W', st⟩ := putFN X hx hZ hown w via eT F E L wi hty hn hf (g := mkF m pc Ls (v :: .ref a :: rest)) rfl rfl hd
  exact own_via st (k T' h' X' e' W' (Fr.snoc X' N g))
theorem own_new (X : Stand p l e R s m args below meth c T locs cells slots) (hx : p.tables.exec = Jvm.exec) (hZ : Z.Warmed39 s.vm) {own C : String} {index n : Nat} (hown : s.vm.findClass own = some m.cls) (w : (Jvm.Cond.classLink own index C).before a0 Z = true) (wi : (Jvm.Cond.instantiable C n).before a0 Z = true) (wz : (Jvm.Cond.initialized C).before a0 Z = true) (eT : T.heap = h) {pc pc' : Nat} {Ls : Array Slot} {rest : List Value}
    (hd : decode c.code pc = .ok (.new index, 3)) (hc : cells + 1 ≤ R.cells) (hl : slots + n ≤ R.slots) (hp : pc + 3 = pc')
    (k : ∀ T' h' b, Stand p l e R s m args below meth c T' locs (cells + 1) (slots + n) → T'.heap = h' → b = h.size → Ext h h' → Exa Z h' b C → (∀ {O nm d : String} {ty : FieldType}, Laid Z a0 C O nm d → parseFieldDescriptor d = some ty → Fld Z h' b O nm d (defaultValue ty)) → own_Ends p e below Φ (T'.setTop (mkF m pc' Ls (.ref b :: rest)))) : own_Ends p e below Φ (T.setTop (mkF m pc Ls rest)) := by
  subst hp; obtain ⟨T', h', X', e', E', A', D', -, st⟩ := newO X hx hZ hown w wi wz eT (g := mkF m pc Ls rest) rfl hd hc hl
  exact own_via st (k T' h' _ X' e' rfl E' A' D')
theorem own_initO (X : Stand p l e R s m args below meth c T locs cells slots) (hx : p.tables.exec = Jvm.exec) (hZ : Z.Warmed39 s.vm) {own : String} {idx : Nat} (hown : s.vm.findClass own = some m.cls) (w1 : (Jvm.Cond.methodLink own idx Lib.objectInit).before a0 Z = true) (w2 : (Jvm.Cond.instanceMethod Lib.objectInit).before a0 Z = true) (w3 : (Jvm.Cond.code Lib.objectInit ⟨#[0xb1]⟩ 1 none).before a0 Z = true) (eT : T.heap = h) {a : Addr} {pc pc' : Nat} {Ls : Array Slot} {rest : List Value} (hsize : Ls.size = c.maxLocals)
    (hd : decode c.code pc = .ok (.invokespecial idx, 3)) (W : Nat) (hW : (rest.map fun v => v.category).sum = W) (hf : 1 ≤ R.frames) (hl : W + 12 ≤ R.locals) (hp : pc + 3 = pc') (k : ∀ T', Stand p l e R s m args below meth c T' locs cells slots → T'.heap = h → own_Ends p e below Φ (T'.setTop (mkF m pc' Ls rest))) : own_Ends p e below Φ (T.setTop (mkF m pc Ls (.ref a :: rest))) := by
  subst hp; obtain ⟨T', X', e', st⟩ := initO X hx hZ hown w1 w2 w3 eT (g := mkF m pc Ls (.ref a :: rest)) rfl hsize rfl hd hf (W := W) (by rw [← hW]; show 2 * 0 + _ ≤ _; omega) hl
  exact own_via st (k T' X' e')
theorem own_static (X : Stand p l e R s m args below meth c T locs cells slots) (hx : p.tables.exec = Jvm.exec) (hZ : Z.Warmed39 s.vm) {own : String} {index : Nat} {y : MethodName} {bytes : ByteArray} {maxL : Nat} {ret : Option FieldType} {rm : Room} {Q : Option Value → Heap → List Loc → Prop} (hown : s.vm.findClass own = some m.cls) (w1 : (Jvm.Cond.methodLink own index y).before a0 Z = true) (w2 : (Jvm.Cond.static y).before a0 Z = true) (w3 : (Jvm.Cond.initialized y.cls).before a0 Z = true) (w4 : (Jvm.Cond.code y bytes maxL ret).before a0 Z = true) (hy : y.cls ≠ "java/lang/invoke/MethodHandle" ∧ y.cls ≠ "java/lang/invoke/VarHandle") (eT : T.heap = h) (hf : rm.frames + 1 ≤ R.frames) {W : Nat} (hl : W + (maxL + 11) + rm.locals ≤ R.locals) (hc : cells + rm.cells ≤ R.cells) (hs : slots + rm.slots ≤ R.slots) {pc pc' : Nat} {Ls : Array Slot} (argsL rest : List Value) {st : List Value} (hsize : Ls.size = c.maxLocals) (hM : own_Met l y bytes maxL ret rm Z argsL.toArray h Q)
    {ps : List FieldType} {r : Option FieldType} (hpd : parseMethodDescriptor y.desc = some ⟨ps, r⟩) (hlen : argsL.length = ps.length) (hst : st = argsL.reverse ++ rest) (hW : (rest.map fun v => v.category).sum = W) (hd : decode c.code pc = .ok (.invokestatic index, 3)) (hp : pc + 3 = pc') (k : ∀ v T' L, Stand p l e R s m args below meth c T' (locs ++ L) (cells + rm.cells) (slots + rm.slots) → Q v T'.heap L → own_Ends p e below Φ (T'.setTop (mkF m pc' Ls (v.toList ++ rest)))) : own_Ends p e below Φ (T.setTop (mkF m pc Ls st)) := by
  subst hp
  obtain ⟨v, _, ⟨T', L', k', n'⟩, -, X', ⟨Lc, hQ, e1, e2, e3⟩, st'⟩ := Jvm.LawKit.callS X hx (y := y) hown (mvT hZ w1) (mvT hZ w2) (mvT hZ w3) (mvT hZ w4) hy (backOf (W := W) (hM []) hZ w4 w3 hf hl) (g := mkF m pc Ls st) rfl hsize (argsL := argsL) (rest := rest) (lenOf hpd hlen) hst (by rw [← hW]; show 2 * 0 + _ ≤ _; omega) hd (fun _ _ => ⟨rfl, eT, hc, hs⟩)
  dsimp only [Pt.U, Pt.locs, Pt.cells, Pt.slots] at X' e1 e2 e3 st' hQ
  subst e1 e2 e3
  exact own_via st' (k v T' Lc X' hQ)
theorem own_special (X : Stand p l e R s m args below meth c T locs cells slots) (hx : p.tables.exec = Jvm.exec) (hZ : Z.Warmed39 s.vm) {own : String} {index : Nat} {y : MethodName} {bytes : ByteArray} {maxL : Nat} {rm : Room} {Q : Option Value → Heap → List Loc → Prop} (hy1 : y.name = "<init>") (hown : s.vm.findClass own = some m.cls) (w1 : (Jvm.Cond.methodLink own index y).before a0 Z = true) (w2 : (Jvm.Cond.instanceMethod y).before a0 Z = true) (w3 : (Jvm.Cond.initialized y.cls).before a0 Z = true) (w4 : (Jvm.Cond.code y bytes maxL none).before a0 Z = true) (hy : y.cls ≠ "java/lang/invoke/MethodHandle" ∧ y.cls ≠ "java/lang/invoke/VarHandle") (eT : T.heap = h) (hf : rm.frames + 1 ≤ R.frames) {W : Nat} (hl : W + (maxL + 11) + rm.locals ≤ R.locals) (hc : cells + rm.cells ≤ R.cells) (hs : slots + rm.slots ≤ R.slots) {pc pc' : Nat} {Ls : Array Slot} (argsL rest : List Value) {st : List Value} (hsize : Ls.size = c.maxLocals) {a : Addr} (hM : own_Met l y bytes maxL none rm Z (.ref a :: argsL).toArray h Q)
    {ps : List FieldType} {r : Option FieldType} (hpd : parseMethodDescriptor y.desc = some ⟨ps, r⟩) (hlen : argsL.length = ps.length) (hst : st = argsL.reverse ++ .ref a :: rest) (hW : (rest.map fun v => v.category).sum = W) (hd : decode c.code pc = .ok (.invokespecial index, 3)) (hp : pc + 3 = pc') (k : ∀ v T' L, Stand p l e R s m args below meth c T' (locs ++ L) (cells + rm.cells) (slots + rm.slots) → Q v T'.heap L → own_Ends p e below Φ (T'.setTop (mkF m pc' Ls (v.toList ++ rest)))) : own_Ends p e below Φ (T.setTop (mkF m pc Ls st)) := by
  subst hp
  obtain ⟨v, _, ⟨T', L', k', n'⟩, -, X', ⟨Lc, hQ, e1, e2, e3⟩, st'⟩ := X.specialBack hx (y := y) hy1 hown (mvT hZ w1) (mvT hZ w2) (mvT hZ w4) hy (backOf (W := W) (hM []) hZ w4 w3 hf hl) (g := mkF m pc Ls st) rfl hsize (Steps.refl _) (a := a) (argsL := argsL) (rest := rest) (lenOf hpd hlen) hst (by rw [← hW]; show 2 * 0 + _ ≤ _; omega) hd (fun _ _ => ⟨rfl, eT, hc, hs⟩)
  dsimp only [Pt.U, Pt.locs, Pt.cells, Pt.slots] at X' e1 e2 e3 st' hQ
  subst e1 e2 e3
  exact own_thru st' (k v T' Lc X' hQ)
theorem own_virtual (X : Stand p l e R s m args below meth c T locs cells slots) (hx : p.tables.exec = Jvm.exec) (hZ : Z.Warmed39 s.vm) {own C : String} {index : Nat} {y z : MethodName} {bytes : ByteArray} {maxL : Nat} {ret : Option FieldType} {rm : Room} {Q : Option Value → Heap → List Loc → Prop} (hown : s.vm.findClass own = some m.cls) (w1 : (Jvm.Cond.methodLink own index y).before a0 Z = true) (w2 : (Jvm.Cond.declares y).before a0 Z = true) (hnf : NotFace s y) (w3 : (Jvm.Cond.selects C y z).before a0 Z = true) (w4 : (Jvm.Cond.instanceMethod z).before a0 Z = true) (w5 : (Jvm.Cond.initialized z.cls).before a0 Z = true) (w6 : (Jvm.Cond.code z bytes maxL ret).before a0 Z = true) (hy : y.cls ≠ "java/lang/invoke/MethodHandle" ∧ y.cls ≠ "java/lang/invoke/VarHandle") (eT : T.heap = h) (hf : rm.frames + 1 ≤ R.frames) {W : Nat} (hl : W + (maxL + 11) + rm.locals ≤ R.locals) (hc : cells + rm.cells ≤ R.cells) (hs : slots + rm.slots ≤ R.slots) {pc pc' : Nat} {Ls : Array Slot} (argsL rest : List Value) {st : List Value} (hsize : Ls.size = c.maxLocals) {a : Addr} (E : Exa Z h a C) (hM : own_Met l z bytes maxL ret rm Z (.ref a :: argsL).toArray h Q)
    {ps : List FieldType} {r : Option FieldType} (hpd : parseMethodDescriptor y.desc = some ⟨ps, r⟩) (hlen : argsL.length = ps.length) (hst : st = argsL.reverse ++ .ref a :: rest) (hW : (rest.map fun v => v.category).sum = W) (hd : decode c.code pc = .ok (.invokevirtual index, 3)) (hp : pc + 3 = pc') (k : ∀ v T' L, Stand p l e R s m args below meth c T' (locs ++ L) (cells + rm.cells) (slots + rm.slots) → Q v T'.heap L → own_Ends p e below Φ (T'.setTop (mkF m pc' Ls (v.toList ++ rest)))) : own_Ends p e below Φ (T.setTop (mkF m pc Ls st)) := by
  subst hp
  obtain ⟨cq, kq, q1, q2, q3⟩ := isOf hZ eT E
  obtain ⟨v, _, ⟨T', L', k', n'⟩, -, X', ⟨Lc, hQ, e1, e2, e3⟩, st'⟩ := X.virtualBack hx (y := y) (z := z) hown (mvT hZ w1) (mvT hZ w2) hnf (mvT hZ w3) (mvT hZ w4) hy (backOf (W := W) (hM []) hZ w6 w5 hf hl) q1 q3 (g := mkF m pc Ls st) rfl hsize (Steps.refl _) (argsL := argsL) (rest := rest) (lenOf hpd hlen) hst (by rw [← hW]; show 2 * 0 + _ ≤ _; omega) hd (fun _ _ => ⟨rfl, eT, hc, hs⟩)
  dsimp only [Pt.U, Pt.locs, Pt.cells, Pt.slots] at X' e1 e2 e3 st' hQ
  subst e1 e2 e3
  exact own_thru st' (k v T' Lc X' hQ)
theorem own_private (X : Stand p l e R s m args below meth c T locs cells slots) (hx : p.tables.exec = Jvm.exec) (hZ : Z.Warmed39 s.vm) {own : String} {index : Nat} {y : MethodName} {bytes : ByteArray} {maxL : Nat} {ret : Option FieldType} {rm : Room} {Q : Option Value → Heap → List Loc → Prop} (hown : s.vm.findClass own = some m.cls) (w1 : (Jvm.Cond.methodLink own index y).before a0 Z = true) (hnf : ∀ c k, s.vm.findClass y.cls = some c → s.vm.classes[c]? = some k → k.isInterface = false) (w4 : (Jvm.Cond.instanceMethod y).before a0 Z = true) (wp : (Jvm.Cond.privateMethod y).before a0 Z = true) (w5 : (Jvm.Cond.initialized y.cls).before a0 Z = true) (w6 : (Jvm.Cond.code y bytes maxL ret).before a0 Z = true) (hy : y.cls ≠ "java/lang/invoke/MethodHandle" ∧ y.cls ≠ "java/lang/invoke/VarHandle") (eT : T.heap = h) (hf : rm.frames + 1 ≤ R.frames) {W : Nat} (hl : W + (maxL + 11) + rm.locals ≤ R.locals) (hc : cells + rm.cells ≤ R.cells) (hs : slots + rm.slots ≤ R.slots) {pc pc' : Nat} {Ls : Array Slot} (argsL rest : List Value) {st : List Value} (hsize : Ls.size = c.maxLocals) {a : Addr} {C : String} (E : Exa Z h a C) (hM : own_Met l y bytes maxL ret rm Z (.ref a :: argsL).toArray h Q)
    {ps : List FieldType} {r : Option FieldType} (hpd : parseMethodDescriptor y.desc = some ⟨ps, r⟩) (hlen : argsL.length = ps.length) (hst : st = argsL.reverse ++ .ref a :: rest) (hW : (rest.map fun v => v.category).sum = W) (hd : decode c.code pc = .ok (.invokevirtual index, 3)) (hp : pc + 3 = pc') (k : ∀ v T' L, Stand p l e R s m args below meth c T' (locs ++ L) (cells + rm.cells) (slots + rm.slots) → Q v T'.heap L → own_Ends p e below Φ (T'.setTop (mkF m pc' Ls (v.toList ++ rest)))) : own_Ends p e below Φ (T.setTop (mkF m pc Ls st)) := by
  subst hp
  obtain ⟨cl, q1, q2⟩ := E.cell
  have hpr := Cond.privateMethod_at (mvP hZ wp (args := args))
  have hin : (Jvm.Cond.instanceMethod y).before args s = true := mvT hZ w4
  obtain ⟨mk, methM, hnamed, hmethM, -, -⟩ := Cond.instanceMethod_spec hin
  obtain ⟨kk, hkk, -⟩ := className_of_methodNamed hnamed
  have hfc := findClass_of_methodNamed hnamed
  have hsel := selects_self_of_private (args := args) hfc hkk (hnf _ _ hfc hkk) hpr hin hy
  obtain ⟨v, _, ⟨T', L', k', n'⟩, -, X', ⟨Lc, hQ, e1, e2, e3⟩, st'⟩ := X.privateBack hx (y := y) hown (mvT hZ w1) hin hsel hpr (mvT hZ w6) hy (backOf (W := W) (hM []) hZ w6 w5 hf hl) (g := mkF m pc Ls st) rfl hsize (Steps.refl _) (a := a) (by rw [eT]; exact q1) q2 (argsL := argsL) (rest := rest) (lenOf hpd hlen) hst (by rw [← hW]; show 2 * 0 + _ ≤ _; omega) hd (fun _ _ => ⟨rfl, eT, hc, hs⟩)
  dsimp only [Pt.U, Pt.locs, Pt.cells, Pt.slots] at X' e1 e2 e3 st' hQ
  subst e1 e2 e3
  exact own_thru st' (k v T' Lc X' hQ)
theorem own_nf (hZ : Z.Warmed39 s.vm) {C : String} {y z : MethodName} (w : (Jvm.Cond.selects C y z).before a0 Z = true) : ∀ c k, s.vm.findClass z.cls = some c → s.vm.classes[c]? = some k → k.isInterface = false := fun c k h1 h2 => by
  obtain ⟨c2, r2, m2, -, -, q3, -, kP, hkP, hkPi⟩ := Cond.selects_spec (show (Jvm.Cond.selects C y z).before #[] s = true from mvT hZ w)
  have := findClass_of_methodNamed q3
  cases this.symm.trans h1
  cases hkP.symm.trans h2
  exact hkPi
theorem own_leave (X : Stand p l e R s m args below meth c T locs cells slots) (hlocks : meth.locks = false) {v : Option Value} (hv : meth.sig.returnType = none → v = none) {Q : Option Value → Heap → List Loc → Prop} {kc ks : Nat} (hc : cells ≤ kc) (hs : slots ≤ ks) (hq : Q v T.heap locs) {t : State}
    (step : ∀ fs, (∀ (f : JFrame) (acts : List Action), f.method = m → f.locked = none → f.entered = [] → (doReturn e (T.setTop f) acts v).1 = T.setFrames fs) → Steps p.tables e below t (T.setFrames fs)) : own_Ends p e below (own_Post s Q kc ks) t := by
  obtain ⟨fs, hr, hrun, hended, hW, hsame⟩ := X.leave (v := v) hv hlocks
  exact ⟨_, _, step fs hr, hrun, hended, v, locs, rfl, hq, ⟨_, rfl⟩, hW, hsame.mono hc hs⟩
theorem own_retN (X : Stand p l e R s m args below meth c T locs cells slots) (hx : p.tables.exec = Jvm.exec) (hlocks : meth.locks = false) {t : FieldType} (hret : meth.sig.returnType = some t) (ht : t = .boolean ∨ t = .byte ∨ t = .char ∨ t = .short) {pc : Nat} {Ls : Array Slot} {z : Int32} {rest : List Value} (hd : decode c.code pc = .ok (.ireturn, 1)) {Q : Option Value → Heap → List Loc → Prop} {kc ks : Nat} (hc : cells ≤ kc) (hs : slots ≤ ks) (hn : nar t z = z) (hq : Q (some (.int z)) T.heap locs) :
    own_Ends p e below (own_Post s Q kc ks) (T.setTop (mkF m pc Ls (.int z :: rest))) :=
  own_leave X hlocks (v := some (.int (nar t z))) (fun h => by rw [hret] at h; cases h) hc hs (by rw [hn]; exact hq) (fun fs hr => retN X hx hret ht hd hr)
theorem own_retI (X : Stand p l e R s m args below meth c T locs cells slots) (hx : p.tables.exec = Jvm.exec) (hlocks : meth.locks = false) (hret : meth.sig.returnType = some .int) {pc : Nat} {Ls : Array Slot} {z : Int32} {rest : List Value} (hd : decode c.code pc = .ok (.ireturn, 1)) {Q : Option Value → Heap → List Loc → Prop} {kc ks : Nat} (hc : cells ≤ kc) (hs : slots ≤ ks) (hq : Q (some (.int z)) T.heap locs) :
    own_Ends p e below (own_Post s Q kc ks) (T.setTop (mkF m pc Ls (.int z :: rest))) :=
  own_leave X hlocks (v := some (.int z)) (fun h => by rw [hret] at h; cases h) hc hs hq (fun fs hr => retOut X hx hret (w := .int z) rfl (Or.inl ⟨rfl, Or.inl rfl, z, rfl⟩) hd hr)
theorem own_retJ (X : Stand p l e R s m args below meth c T locs cells slots) (hx : p.tables.exec = Jvm.exec) (hlocks : meth.locks = false) (hret : meth.sig.returnType = some .long) {pc : Nat} {Ls : Array Slot} {z : Int64} {rest : List Value} (hd : decode c.code pc = .ok (.lreturn, 1)) {Q : Option Value → Heap → List Loc → Prop} {kc ks : Nat} (hc : cells ≤ kc) (hs : slots ≤ ks) (hq : Q (some (.long z)) T.heap locs) :
    own_Ends p e below (own_Post s Q kc ks) (T.setTop (mkF m pc Ls (.long z :: rest))) :=
  own_leave X hlocks (v := some (.long z)) (fun h => by rw [hret] at h; cases h) hc hs hq (fun fs hr => retOut X hx hret (w := .long z) rfl (Or.inr (Or.inl ⟨rfl, rfl, z, rfl⟩)) hd hr)
theorem own_narR {t : FieldType} (ht : t.isReference = true) {w : Value} (hw : w.isRef = true) : narrow t w = w := by cases t <;> first | (cases w <;> first | rfl | cases hw) | cases ht
theorem own_retA (X : Stand p l e R s m args below meth c T locs cells slots) (hx : p.tables.exec = Jvm.exec) (hlocks : meth.locks = false) {t : FieldType} (hret : meth.sig.returnType = some t) (ht : t.isReference = true) {pc : Nat} {Ls : Array Slot} {w : Value} (hw : w.isRef = true) {rest : List Value} (hd : decode c.code pc = .ok (.areturn, 1)) {Q : Option Value → Heap → List Loc → Prop} {kc ks : Nat} (hc : cells ≤ kc) (hs : slots ≤ ks) (hq : Q (some w) T.heap locs) :
    own_Ends p e below (own_Post s Q kc ks) (T.setTop (mkF m pc Ls (w :: rest))) :=
  own_leave X hlocks (v := some w) (fun h => by rw [hret] at h; cases h) hc hs hq (fun fs hr => retOut X hx hret (own_narR ht hw) (Or.inr (Or.inr (Or.inr (Or.inr ⟨rfl, ht, hw⟩)))) hd hr)
theorem own_ret (X : Stand p l e R s m args below meth c T locs cells slots) (hx : p.tables.exec = Jvm.exec) (hlocks : meth.locks = false) (hret : meth.sig.returnType = none) {pc : Nat} {Ls : Array Slot} (hd : decode c.code pc = .ok (.return_, 1)) {Q : Option Value → Heap → List Loc → Prop} {kc ks : Nat} (hc : cells ≤ kc) (hs : slots ≤ ks) (hq : Q none T.heap locs) :
    own_Ends p e below (own_Post s Q kc ks) (T.setTop (mkF m pc Ls [])) :=
  own_leave X hlocks (v := none) (fun _ => rfl) hc hs hq (fun fs hr => X.returnOut hx hret hd hr)
end OwnKit
theorem own_pd0 : parseMethodDescriptor "()Z" = some ⟨[], some .boolean⟩ := by decide +kernel
theorem own_pd1 : parseMethodDescriptor "(I)Lcom/example/pincio/pincio/core/Expression$Operator;" = some ⟨[.int], some (.object "com/example/pincio/pincio/core/Expression$Operator")⟩ := by decide +kernel
theorem own_d_method_3_code_0 : decode method_3_code 0 = .ok (.iload_n 0, 1) := by decide +kernel
theorem own_d_method_3_code_1 : decode method_3_code 1 = .ok (.ifCond .ne 7, 3) := by decide +kernel
theorem own_d_method_3_code_8 : decode method_3_code 8 = .ok (.iload_n 0, 1) := by decide +kernel
theorem own_d_method_3_code_9 : decode method_3_code 9 = .ok (.iconst 1, 1) := by decide +kernel
theorem own_d_method_3_code_10 : decode method_3_code 10 = .ok (.if_icmp .ne 7, 3) := by decide +kernel
theorem own_d_method_3_code_17 : decode method_3_code 17 = .ok (.iload_n 0, 1) := by decide +kernel
theorem own_d_method_3_code_18 : decode method_3_code 18 = .ok (.iconst 2, 1) := by decide +kernel
theorem own_d_method_3_code_19 : decode method_3_code 19 = .ok (.if_icmp .ne 7, 3) := by decide +kernel
theorem own_d_method_3_code_26 : decode method_3_code 26 = .ok (.iload_n 0, 1) := by decide +kernel
theorem own_d_method_3_code_27 : decode method_3_code 27 = .ok (.iconst 3, 1) := by decide +kernel
theorem own_d_method_3_code_28 : decode method_3_code 28 = .ok (.if_icmp .ne 7, 3) := by decide +kernel
theorem own_d_method_3_code_35 : decode method_3_code 35 = .ok (.iload_n 0, 1) := by decide +kernel
theorem own_d_method_3_code_36 : decode method_3_code 36 = .ok (.iconst 4, 1) := by decide +kernel
theorem own_d_method_3_code_37 : decode method_3_code 37 = .ok (.if_icmp .ne 7, 3) := by decide +kernel
theorem own_d_method_3_code_44 : decode method_3_code 44 = .ok (.iload_n 0, 1) := by decide +kernel
theorem own_d_method_3_code_45 : decode method_3_code 45 = .ok (.iconst 5, 1) := by decide +kernel
theorem own_d_method_3_code_46 : decode method_3_code 46 = .ok (.if_icmp .ne 7, 3) := by decide +kernel
theorem own_d_method_3_code_53 : decode method_3_code 53 = .ok (.iload_n 0, 1) := by decide +kernel
theorem own_d_method_3_code_54 : decode method_3_code 54 = .ok (.bipush 6, 2) := by decide +kernel
theorem own_d_method_3_code_56 : decode method_3_code 56 = .ok (.if_icmp .ne 7, 3) := by decide +kernel
theorem own_d_method_3_code_63 : decode method_3_code 63 = .ok (.iload_n 0, 1) := by decide +kernel
theorem own_d_method_3_code_64 : decode method_3_code 64 = .ok (.bipush 7, 2) := by decide +kernel
theorem own_d_method_3_code_66 : decode method_3_code 66 = .ok (.if_icmp .ne 7, 3) := by decide +kernel
theorem own_d_method_3_code_73 : decode method_3_code 73 = .ok (.iload_n 0, 1) := by decide +kernel
theorem own_d_method_3_code_74 : decode method_3_code 74 = .ok (.bipush 8, 2) := by decide +kernel
theorem own_d_method_3_code_76 : decode method_3_code 76 = .ok (.if_icmp .ne 7, 3) := by decide +kernel
theorem own_d_method_3_code_83 : decode method_3_code 83 = .ok (.iload_n 0, 1) := by decide +kernel
theorem own_d_method_3_code_84 : decode method_3_code 84 = .ok (.bipush 9, 2) := by decide +kernel
theorem own_d_method_3_code_86 : decode method_3_code 86 = .ok (.if_icmp .ne 7, 3) := by decide +kernel
theorem own_d_method_3_code_93 : decode method_3_code 93 = .ok (.iload_n 0, 1) := by decide +kernel
theorem own_d_method_3_code_94 : decode method_3_code 94 = .ok (.bipush 10, 2) := by decide +kernel
theorem own_d_method_3_code_96 : decode method_3_code 96 = .ok (.if_icmp .ne 7, 3) := by decide +kernel
theorem own_d_method_3_code_103 : decode method_3_code 103 = .ok (.iload_n 0, 1) := by decide +kernel
theorem own_d_method_3_code_104 : decode method_3_code 104 = .ok (.bipush 11, 2) := by decide +kernel
theorem own_d_method_3_code_106 : decode method_3_code 106 = .ok (.if_icmp .ne 7, 3) := by decide +kernel
theorem own_d_method_3_code_113 : decode method_3_code 113 = .ok (.iload_n 0, 1) := by decide +kernel
theorem own_d_method_3_code_114 : decode method_3_code 114 = .ok (.bipush 12, 2) := by decide +kernel
theorem own_d_method_3_code_116 : decode method_3_code 116 = .ok (.if_icmp .ne 7, 3) := by decide +kernel
theorem own_d_method_3_code_123 : decode method_3_code 123 = .ok (.iload_n 0, 1) := by decide +kernel
theorem own_d_method_3_code_124 : decode method_3_code 124 = .ok (.bipush 13, 2) := by decide +kernel
theorem own_d_method_3_code_126 : decode method_3_code 126 = .ok (.if_icmp .ne 7, 3) := by decide +kernel
theorem own_d_method_3_code_133 : decode method_3_code 133 = .ok (.iload_n 0, 1) := by decide +kernel
theorem own_d_method_3_code_134 : decode method_3_code 134 = .ok (.bipush 14, 2) := by decide +kernel
theorem own_d_method_3_code_136 : decode method_3_code 136 = .ok (.if_icmp .ne 7, 3) := by decide +kernel
theorem own_d_method_3_code_143 : decode method_3_code 143 = .ok (.iload_n 0, 1) := by decide +kernel
theorem own_d_method_3_code_144 : decode method_3_code 144 = .ok (.bipush 15, 2) := by decide +kernel
theorem own_d_method_3_code_146 : decode method_3_code 146 = .ok (.if_icmp .ne 7, 3) := by decide +kernel
theorem own_d_method_3_code_153 : decode method_3_code 153 = .ok (.iload_n 0, 1) := by decide +kernel
theorem own_d_method_3_code_154 : decode method_3_code 154 = .ok (.bipush 16, 2) := by decide +kernel
theorem own_d_method_3_code_156 : decode method_3_code 156 = .ok (.if_icmp .ne 7, 3) := by decide +kernel
theorem own_d_method_3_code_163 : decode method_3_code 163 = .ok (.iload_n 0, 1) := by decide +kernel
theorem own_d_method_3_code_164 : decode method_3_code 164 = .ok (.bipush 17, 2) := by decide +kernel
theorem own_d_method_3_code_166 : decode method_3_code 166 = .ok (.if_icmp .ne 7, 3) := by decide +kernel
theorem own_d_method_3_code_173 : decode method_3_code 173 = .ok (.iload_n 0, 1) := by decide +kernel
theorem own_d_method_3_code_174 : decode method_3_code 174 = .ok (.bipush 18, 2) := by decide +kernel
theorem own_d_method_3_code_176 : decode method_3_code 176 = .ok (.if_icmp .ne 7, 3) := by decide +kernel
theorem own_d_method_3_code_183 : decode method_3_code 183 = .ok (.getstatic 78, 3) := by decide +kernel
theorem own_d_method_3_code_186 : decode method_3_code 186 = .ok (.areturn, 1) := by decide +kernel
theorem own_d_method_3_code_179 : decode method_3_code 179 = .ok (.getstatic 75, 3) := by decide +kernel
theorem own_d_method_3_code_182 : decode method_3_code 182 = .ok (.areturn, 1) := by decide +kernel
theorem own_d_method_3_code_169 : decode method_3_code 169 = .ok (.getstatic 72, 3) := by decide +kernel
theorem own_d_method_3_code_172 : decode method_3_code 172 = .ok (.areturn, 1) := by decide +kernel
theorem own_d_method_3_code_159 : decode method_3_code 159 = .ok (.getstatic 69, 3) := by decide +kernel
theorem own_d_method_3_code_162 : decode method_3_code 162 = .ok (.areturn, 1) := by decide +kernel
theorem own_d_method_3_code_149 : decode method_3_code 149 = .ok (.getstatic 66, 3) := by decide +kernel
theorem own_d_method_3_code_152 : decode method_3_code 152 = .ok (.areturn, 1) := by decide +kernel
theorem own_d_method_3_code_139 : decode method_3_code 139 = .ok (.getstatic 63, 3) := by decide +kernel
theorem own_d_method_3_code_142 : decode method_3_code 142 = .ok (.areturn, 1) := by decide +kernel
theorem own_d_method_3_code_129 : decode method_3_code 129 = .ok (.getstatic 60, 3) := by decide +kernel
theorem own_d_method_3_code_132 : decode method_3_code 132 = .ok (.areturn, 1) := by decide +kernel
theorem own_d_method_3_code_119 : decode method_3_code 119 = .ok (.getstatic 57, 3) := by decide +kernel
theorem own_d_method_3_code_122 : decode method_3_code 122 = .ok (.areturn, 1) := by decide +kernel
theorem own_d_method_3_code_109 : decode method_3_code 109 = .ok (.getstatic 54, 3) := by decide +kernel
theorem own_d_method_3_code_112 : decode method_3_code 112 = .ok (.areturn, 1) := by decide +kernel
theorem own_d_method_3_code_99 : decode method_3_code 99 = .ok (.getstatic 51, 3) := by decide +kernel
theorem own_d_method_3_code_102 : decode method_3_code 102 = .ok (.areturn, 1) := by decide +kernel
theorem own_d_method_3_code_89 : decode method_3_code 89 = .ok (.getstatic 48, 3) := by decide +kernel
theorem own_d_method_3_code_92 : decode method_3_code 92 = .ok (.areturn, 1) := by decide +kernel
theorem own_d_method_3_code_79 : decode method_3_code 79 = .ok (.getstatic 45, 3) := by decide +kernel
theorem own_d_method_3_code_82 : decode method_3_code 82 = .ok (.areturn, 1) := by decide +kernel
theorem own_d_method_3_code_69 : decode method_3_code 69 = .ok (.getstatic 42, 3) := by decide +kernel
theorem own_d_method_3_code_72 : decode method_3_code 72 = .ok (.areturn, 1) := by decide +kernel
theorem own_d_method_3_code_59 : decode method_3_code 59 = .ok (.getstatic 39, 3) := by decide +kernel
theorem own_d_method_3_code_62 : decode method_3_code 62 = .ok (.areturn, 1) := by decide +kernel
theorem own_d_method_3_code_49 : decode method_3_code 49 = .ok (.getstatic 36, 3) := by decide +kernel
theorem own_d_method_3_code_52 : decode method_3_code 52 = .ok (.areturn, 1) := by decide +kernel
theorem own_d_method_3_code_40 : decode method_3_code 40 = .ok (.getstatic 33, 3) := by decide +kernel
theorem own_d_method_3_code_43 : decode method_3_code 43 = .ok (.areturn, 1) := by decide +kernel
theorem own_d_method_3_code_31 : decode method_3_code 31 = .ok (.getstatic 30, 3) := by decide +kernel
theorem own_d_method_3_code_34 : decode method_3_code 34 = .ok (.areturn, 1) := by decide +kernel
theorem own_d_method_3_code_22 : decode method_3_code 22 = .ok (.getstatic 27, 3) := by decide +kernel
theorem own_d_method_3_code_25 : decode method_3_code 25 = .ok (.areturn, 1) := by decide +kernel
theorem own_d_method_3_code_13 : decode method_3_code 13 = .ok (.getstatic 24, 3) := by decide +kernel
theorem own_d_method_3_code_16 : decode method_3_code 16 = .ok (.areturn, 1) := by decide +kernel
theorem own_d_method_3_code_4 : decode method_3_code 4 = .ok (.getstatic 20, 3) := by decide +kernel
theorem own_d_method_3_code_7 : decode method_3_code 7 = .ok (.areturn, 1) := by decide +kernel
theorem own_pn_com_example_pincio_pincio_core_OperatorIsLogicalPinLaw : plainName "com/example/pincio/pincio/core/OperatorIsLogicalPinLaw" = true := by first | (simp [plainName, overriddenIn]; done) | decide +kernel
theorem own_d_prog_41_method_5_code_0 : decode prog_41_method_5_code 0 = .ok (.aload_n 0, 1) := by decide +kernel
theorem own_d_prog_41_method_5_code_1 : decode prog_41_method_5_code 1 = .ok (.getstatic 46, 3) := by decide +kernel
theorem own_d_prog_41_method_5_code_4 : decode prog_41_method_5_code 4 = .ok (.if_acmp .eq 17, 3) := by decide +kernel
theorem own_d_prog_41_method_5_code_21 : decode prog_41_method_5_code 21 = .ok (.iconst 1, 1) := by decide +kernel
theorem own_d_prog_41_method_5_code_22 : decode prog_41_method_5_code 22 = .ok (.goto 4, 3) := by decide +kernel
theorem own_d_prog_41_method_5_code_26 : decode prog_41_method_5_code 26 = .ok (.ireturn, 1) := by decide +kernel
theorem own_d_prog_41_method_5_code_7 : decode prog_41_method_5_code 7 = .ok (.aload_n 0, 1) := by decide +kernel
theorem own_d_prog_41_method_5_code_8 : decode prog_41_method_5_code 8 = .ok (.getstatic 49, 3) := by decide +kernel
theorem own_d_prog_41_method_5_code_11 : decode prog_41_method_5_code 11 = .ok (.if_acmp .eq 10, 3) := by decide +kernel
theorem own_d_prog_41_method_5_code_14 : decode prog_41_method_5_code 14 = .ok (.aload_n 0, 1) := by decide +kernel
theorem own_d_prog_41_method_5_code_15 : decode prog_41_method_5_code 15 = .ok (.getstatic 52, 3) := by decide +kernel
theorem own_d_prog_41_method_5_code_18 : decode prog_41_method_5_code 18 = .ok (.if_acmp .ne 7, 3) := by decide +kernel
theorem own_d_prog_41_method_5_code_25 : decode prog_41_method_5_code 25 = .ok (.iconst 0, 1) := by decide +kernel
theorem own_pn_com_example_pincio_pincio_core_Expression_Operator : plainName "com/example/pincio/pincio/core/Expression$Operator" = true := by first | (simp [plainName, overriddenIn]; done) | decide +kernel
theorem own_d_prog_41_method_4_code_0 : decode prog_41_method_4_code 0 = .ok (.aload_n 0, 1) := by decide +kernel
theorem own_d_prog_41_method_4_code_1 : decode prog_41_method_4_code 1 = .ok (.getstatic 7, 3) := by decide +kernel
theorem own_d_prog_41_method_4_code_4 : decode prog_41_method_4_code 4 = .ok (.if_acmp .eq 34, 3) := by decide +kernel
theorem own_d_prog_41_method_4_code_38 : decode prog_41_method_4_code 38 = .ok (.iconst 1, 1) := by decide +kernel
theorem own_d_prog_41_method_4_code_39 : decode prog_41_method_4_code 39 = .ok (.goto 4, 3) := by decide +kernel
theorem own_d_prog_41_method_4_code_43 : decode prog_41_method_4_code 43 = .ok (.ireturn, 1) := by decide +kernel
theorem own_d_prog_41_method_4_code_7 : decode prog_41_method_4_code 7 = .ok (.aload_n 0, 1) := by decide +kernel
theorem own_d_prog_41_method_4_code_8 : decode prog_41_method_4_code 8 = .ok (.getstatic 10, 3) := by decide +kernel
theorem own_d_prog_41_method_4_code_11 : decode prog_41_method_4_code 11 = .ok (.if_acmp .eq 27, 3) := by decide +kernel
theorem own_d_prog_41_method_4_code_14 : decode prog_41_method_4_code 14 = .ok (.aload_n 0, 1) := by decide +kernel
theorem own_d_prog_41_method_4_code_15 : decode prog_41_method_4_code 15 = .ok (.getstatic 13, 3) := by decide +kernel
theorem own_d_prog_41_method_4_code_18 : decode prog_41_method_4_code 18 = .ok (.if_acmp .eq 20, 3) := by decide +kernel
theorem own_d_prog_41_method_4_code_21 : decode prog_41_method_4_code 21 = .ok (.aload_n 0, 1) := by decide +kernel
theorem own_d_prog_41_method_4_code_22 : decode prog_41_method_4_code 22 = .ok (.getfield 91, 3) := by decide +kernel
theorem own_d_prog_41_method_4_code_25 : decode prog_41_method_4_code 25 = .ok (.getstatic 95, 3) := by decide +kernel
theorem own_d_prog_41_method_4_code_28 : decode prog_41_method_4_code 28 = .ok (.if_acmp .eq 10, 3) := by decide +kernel
theorem own_d_prog_41_method_4_code_31 : decode prog_41_method_4_code 31 = .ok (.aload_n 0, 1) := by decide +kernel
theorem own_d_prog_41_method_4_code_32 : decode prog_41_method_4_code 32 = .ok (.invokevirtual 100, 3) := by decide +kernel
theorem own_d_prog_41_method_4_code_35 : decode prog_41_method_4_code 35 = .ok (.ifCond .eq 7, 3) := by decide +kernel
theorem own_d_prog_41_method_4_code_42 : decode prog_41_method_4_code 42 = .ok (.iconst 0, 1) := by decide +kernel
def own_names : List (String × Int32) := [("TERM", 0), ("OR", 1), ("AND", 2), ("NOT", 3), ("EQUAL", 4), ("NOT_EQUAL", 5), ("LESS", 6), ("GREATER", 7), ("LESS_OR_EQUAL", 8), ("GREATER_OR_EQUAL", 9), ("ADD", 10), ("SUBTRACT", 11), ("MULTIPLY", 12), ("DIVIDE", 13), ("SAME_TERM", 14), ("IS_IRI", 15), ("IS_LITERAL", 16), ("STR", 17), ("LANG", 18), ("DATATYPE", 19)]
def own_ix : List Int32 := [0, 1, 2, 3, 4, 5, 6, 7, 8, 9, 10, 11, 12, 13, 14, 15, 16, 17, 18, 19]
def own_tst (o : Int32 → Addr) (a : Addr) : Int32 := if a = o 14 then 1 else if a = o 15 then 1 else if a = o 16 then 1 else 0
def own_log (o : Int32 → Addr) (rel a pr : Addr) : Int32 := if a = o 1 then 1 else if a = o 2 then 1 else if a = o 3 then 1 else if pr = rel then 1 else if own_tst o a = 0 then 0 else 1
def own_exp (i : Int32) : Int32 := if i < 1 then (if i < 14 then 0 else if 16 < i then 0 else 1) else if 9 < i then (if i < 14 then 0 else if 16 < i then 0 else 1) else 1
theorem own_last {p : Int32} (hp : p ∈ own_ix) (n0 : ¬ p = (0 : Int32)) (n1 : ¬ p = (1 : Int32)) (n2 : ¬ p = (2 : Int32)) (n3 : ¬ p = (3 : Int32)) (n4 : ¬ p = (4 : Int32)) (n5 : ¬ p = (5 : Int32)) (n6 : ¬ p = (6 : Int32)) (n7 : ¬ p = (7 : Int32)) (n8 : ¬ p = (8 : Int32)) (n9 : ¬ p = (9 : Int32)) (n10 : ¬ p = (10 : Int32)) (n11 : ¬ p = (11 : Int32)) (n12 : ¬ p = (12 : Int32)) (n13 : ¬ p = (13 : Int32)) (n14 : ¬ p = (14 : Int32)) (n15 : ¬ p = (15 : Int32)) (n16 : ¬ p = (16 : Int32)) (n17 : ¬ p = (17 : Int32)) (n18 : ¬ p = (18 : Int32)) : p = 19 := by
  simp only [own_ix, List.mem_cons, List.not_mem_nil, or_false] at hp
  rcases hp with rfl | rfl | rfl | rfl | rfl | rfl | rfl | rfl | rfl | rfl | rfl | rfl | rfl | rfl | rfl | rfl | rfl | rfl | rfl | rfl
  · exact absurd rfl n0
  · exact absurd rfl n1
  · exact absurd rfl n2
  · exact absurd rfl n3
  · exact absurd rfl n4
  · exact absurd rfl n5
  · exact absurd rfl n6
  · exact absurd rfl n7
  · exact absurd rfl n8
  · exact absurd rfl n9
  · exact absurd rfl n10
  · exact absurd rfl n11
  · exact absurd rfl n12
  · exact absurd rfl n13
  · exact absurd rfl n14
  · exact absurd rfl n15
  · exact absurd rfl n16
  · exact absurd rfl n17
  · exact absurd rfl n18
  · rfl
theorem own_inj {Z : State} {o : Int32 → Addr} (HO : ∀ j ∈ own_ix, Fld Z Z.heap (o j) "java/lang/Enum" "ordinal" "I" (.int j)) {j k : Int32} (hj : j ∈ own_ix) (hk : k ∈ own_ix) : (o j = o k) = (j = k) := propext ⟨fun e => Classical.byContradiction fun n => Fld.ne (HO j hj) (HO k hk) (fun q => n (Value.int.inj q)) e, fun e => congrArg o e⟩
theorem own_plain {Z : State} {o pr : Int32 → Addr} {rel : Addr} (HO : ∀ j ∈ own_ix, Fld Z Z.heap (o j) "java/lang/Enum" "ordinal" "I" (.int j)) (HR1 : ∀ j ∈ [(4 : Int32), 5, 6, 7, 8, 9], pr j = rel) (HR2 : ∀ j ∈ [(0 : Int32), 10, 11, 12, 13, 14, 15, 16, 17, 18, 19], ¬ pr j = rel) {j : Int32} (hj : j ∈ own_ix) : own_log o rel (o j) (pr j) = own_exp j := by
  have m1 : (1 : Int32) ∈ own_ix := by decide
  have m2 : (2 : Int32) ∈ own_ix := by decide
  have m3 : (3 : Int32) ∈ own_ix := by decide
  have m14 : (14 : Int32) ∈ own_ix := by decide
  have m15 : (15 : Int32) ∈ own_ix := by decide
  have m16 : (16 : Int32) ∈ own_ix := by decide
  have hj' := hj
  simp only [own_log, own_tst, own_inj HO hj m1, own_inj HO hj m2, own_inj HO hj m3, own_inj HO hj m14, own_inj HO hj m15, own_inj HO hj m16]
  simp only [own_ix, List.mem_cons, List.not_mem_nil, or_false] at hj'
  rcases hj' with rfl | rfl | rfl | rfl | rfl | rfl | rfl | rfl | rfl | rfl | rfl | rfl | rfl | rfl | rfl | rfl | rfl | rfl | rfl | rfl
  all_goals first
    | (rw [if_pos rfl]; decide)
    | (rw [if_neg (by decide), if_pos rfl]; decide)
    | (rw [if_neg (by decide), if_neg (by decide), if_pos rfl]; decide)
    | (rw [if_neg (by decide), if_neg (by decide), if_neg (by decide), if_pos (HR1 _ (by decide))]; decide)
    | (rw [if_neg (by decide), if_neg (by decide), if_neg (by decide), if_neg (HR2 _ (by decide))]; decide)
theorem own_rem (k : Int32) : ((k &&& (2147483647 : Int32)) % (20 : Int32)) ∈ own_ix := by
  have h1 := c_mask k 2147483647 31 (by decide) (by decide)
  have h2 := (c_irem (k &&& 2147483647) 20 20 (by decide)).1 (by rw [h1]; omega)
  generalize (k &&& (2147483647 : Int32)) % (20 : Int32) = i at h2
  have h3 : 0 ≤ i.toInt ∧ i.toInt < 20 := by omega
  have h4 : ∀ n : Int, i.toInt = n → i = Int32.ofInt n := fun n q => by rw [← q]; simp
  have h5 : i.toInt = 0 ∨ i.toInt = 1 ∨ i.toInt = 2 ∨ i.toInt = 3 ∨ i.toInt = 4 ∨ i.toInt = 5 ∨ i.toInt = 6 ∨ i.toInt = 7 ∨ i.toInt = 8 ∨ i.toInt = 9 ∨ i.toInt = 10 ∨ i.toInt = 11 ∨ i.toInt = 12 ∨ i.toInt = 13 ∨ i.toInt = 14 ∨ i.toInt = 15 ∨ i.toInt = 16 ∨ i.toInt = 17 ∨ i.toInt = 18 ∨ i.toInt = 19 := by omega
  rcases h5 with h5 | h5 | h5 | h5 | h5 | h5 | h5 | h5 | h5 | h5 | h5 | h5 | h5 | h5 | h5 | h5 | h5 | h5 | h5 | h5 <;> (rw [h4 _ h5]; decide)
set_option maxRecDepth 65536 in
set_option maxHeartbeats 40000000 in
theorem own_pick (l : Launch) (Z : State) (a0 : Array Value) (hw : ∀ d ∈ tables_1, d.before a0 Z = true) (o : Int32 → Addr) (p1 : Int32) (h0 : Heap) (n0 : Nat) (O0 : Old Z n0 h0) (HS : ∀ q ∈ own_names, Sta Z Z.heap "com/example/pincio/pincio/core/Expression$Operator" q.1 "Lcom/example/pincio/pincio/core/Expression$Operator;" (.ref (o q.2))) (hp : p1 ∈ own_ix) :
    own_Met l (⟨"com/example/pincio/pincio/core/OperatorIsLogicalPinLaw", "pick", "(I)Lcom/example/pincio/pincio/core/Expression$Operator;"⟩ : MethodName) method_3_code 1 (some (.object "com/example/pincio/pincio/core/Expression$Operator")) ({ frames := 0, cells := 0, slots := 0, locals := 0 } : Room) Z #[(.int p1)] h0 (fun v h L => v = some (.ref (o p1)) ∧ Fr n0 L ∧ h = h0) := by
  refine own_met (plainFor_of_name own_pn_com_example_pincio_pincio_core_OperatorIsLogicalPinLaw) ?_
  intro p e s m below meth c T0 hx hby hml hZ hown hnm hret hlocks X0 e0 hh0
  have ef : entryFrame m #[(.int p1)] 1 = mkF m 0 #[.val (.int p1)] [] := by first | rfl | (simp [entryFrame, mkF, argsToLocals, Value.category]; done)
  refine own_entry ef ?_
  have N0 := Fr.nil n0
  refine own_iloadN X0 hx (hb hby own_d_method_3_code_0) rfl rfl ?_
  refine own_if_ne X0 hx (hb hby own_d_method_3_code_1) (by decide) rfl rfl (fun hc1_1 => ?_) (fun hc1_1 => ?_)
  · refine own_iloadN X0 hx (hb hby own_d_method_3_code_8) rfl rfl ?_
    refine own_iconst X0 hx (1 : Int32) (hb hby own_d_method_3_code_9) (by decide) rfl ?_
    refine own_icmp_ne X0 hx (hb hby own_d_method_3_code_10) (by decide) rfl rfl (fun hc10_2 => ?_) (fun hc10_2 => ?_)
    · refine own_iloadN X0 hx (hb hby own_d_method_3_code_17) rfl rfl ?_
      refine own_iconst X0 hx (2 : Int32) (hb hby own_d_method_3_code_18) (by decide) rfl ?_
      refine own_icmp_ne X0 hx (hb hby own_d_method_3_code_19) (by decide) rfl rfl (fun hc19_3 => ?_) (fun hc19_3 => ?_)
      · refine own_iloadN X0 hx (hb hby own_d_method_3_code_26) rfl rfl ?_
        refine own_iconst X0 hx (3 : Int32) (hb hby own_d_method_3_code_27) (by decide) rfl ?_
        refine own_icmp_ne X0 hx (hb hby own_d_method_3_code_28) (by decide) rfl rfl (fun hc28_4 => ?_) (fun hc28_4 => ?_)
        · refine own_iloadN X0 hx (hb hby own_d_method_3_code_35) rfl rfl ?_
          refine own_iconst X0 hx (4 : Int32) (hb hby own_d_method_3_code_36) (by decide) rfl ?_
          refine own_icmp_ne X0 hx (hb hby own_d_method_3_code_37) (by decide) rfl rfl (fun hc37_5 => ?_) (fun hc37_5 => ?_)
          · refine own_iloadN X0 hx (hb hby own_d_method_3_code_44) rfl rfl ?_
            refine own_iconst X0 hx (5 : Int32) (hb hby own_d_method_3_code_45) (by decide) rfl ?_
            refine own_icmp_ne X0 hx (hb hby own_d_method_3_code_46) (by decide) rfl rfl (fun hc46_6 => ?_) (fun hc46_6 => ?_)
            · refine own_iloadN X0 hx (hb hby own_d_method_3_code_53) rfl rfl ?_
              refine own_bipush X0 hx (6 : Int32) (hb hby own_d_method_3_code_54) (by decide) rfl ?_
              refine own_icmp_ne X0 hx (hb hby own_d_method_3_code_56) (by decide) rfl rfl (fun hc56_7 => ?_) (fun hc56_7 => ?_)
              · refine own_iloadN X0 hx (hb hby own_d_method_3_code_63) rfl rfl ?_
                refine own_bipush X0 hx (7 : Int32) (hb hby own_d_method_3_code_64) (by decide) rfl ?_
                refine own_icmp_ne X0 hx (hb hby own_d_method_3_code_66) (by decide) rfl rfl (fun hc66_8 => ?_) (fun hc66_8 => ?_)
                · refine own_iloadN X0 hx (hb hby own_d_method_3_code_73) rfl rfl ?_
                  refine own_bipush X0 hx (8 : Int32) (hb hby own_d_method_3_code_74) (by decide) rfl ?_
                  refine own_icmp_ne X0 hx (hb hby own_d_method_3_code_76) (by decide) rfl rfl (fun hc76_9 => ?_) (fun hc76_9 => ?_)
                  · refine own_iloadN X0 hx (hb hby own_d_method_3_code_83) rfl rfl ?_
                    refine own_bipush X0 hx (9 : Int32) (hb hby own_d_method_3_code_84) (by decide) rfl ?_
                    refine own_icmp_ne X0 hx (hb hby own_d_method_3_code_86) (by decide) rfl rfl (fun hc86_10 => ?_) (fun hc86_10 => ?_)
                    · refine own_iloadN X0 hx (hb hby own_d_method_3_code_93) rfl rfl ?_
                      refine own_bipush X0 hx (10 : Int32) (hb hby own_d_method_3_code_94) (by decide) rfl ?_
                      refine own_icmp_ne X0 hx (hb hby own_d_method_3_code_96) (by decide) rfl rfl (fun hc96_11 => ?_) (fun hc96_11 => ?_)
                      · refine own_iloadN X0 hx (hb hby own_d_method_3_code_103) rfl rfl ?_
                        refine own_bipush X0 hx (11 : Int32) (hb hby own_d_method_3_code_104) (by decide) rfl ?_
                        refine own_icmp_ne X0 hx (hb hby own_d_method_3_code_106) (by decide) rfl rfl (fun hc106_12 => ?_) (fun hc106_12 => ?_)
                        · refine own_iloadN X0 hx (hb hby own_d_method_3_code_113) rfl rfl ?_
                          refine own_bipush X0 hx (12 : Int32) (hb hby own_d_method_3_code_114) (by decide) rfl ?_
                          refine own_icmp_ne X0 hx (hb hby own_d_method_3_code_116) (by decide) rfl rfl (fun hc116_13 => ?_) (fun hc116_13 => ?_)
                          · refine own_iloadN X0 hx (hb hby own_d_method_3_code_123) rfl rfl ?_
                            refine own_bipush X0 hx (13 : Int32) (hb hby own_d_method_3_code_124) (by decide) rfl ?_
                            refine own_icmp_ne X0 hx (hb hby own_d_method_3_code_126) (by decide) rfl rfl (fun hc126_14 => ?_) (fun hc126_14 => ?_)
                            · refine own_iloadN X0 hx (hb hby own_d_method_3_code_133) rfl rfl ?_
                              refine own_bipush X0 hx (14 : Int32) (hb hby own_d_method_3_code_134) (by decide) rfl ?_
                              refine own_icmp_ne X0 hx (hb hby own_d_method_3_code_136) (by decide) rfl rfl (fun hc136_15 => ?_) (fun hc136_15 => ?_)
                              · refine own_iloadN X0 hx (hb hby own_d_method_3_code_143) rfl rfl ?_
                                refine own_bipush X0 hx (15 : Int32) (hb hby own_d_method_3_code_144) (by decide) rfl ?_
                                refine own_icmp_ne X0 hx (hb hby own_d_method_3_code_146) (by decide) rfl rfl (fun hc146_16 => ?_) (fun hc146_16 => ?_)
                                · refine own_iloadN X0 hx (hb hby own_d_method_3_code_153) rfl rfl ?_
                                  refine own_bipush X0 hx (16 : Int32) (hb hby own_d_method_3_code_154) (by decide) rfl ?_
                                  refine own_icmp_ne X0 hx (hb hby own_d_method_3_code_156) (by decide) rfl rfl (fun hc156_17 => ?_) (fun hc156_17 => ?_)
                                  · refine own_iloadN X0 hx (hb hby own_d_method_3_code_163) rfl rfl ?_
                                    refine own_bipush X0 hx (17 : Int32) (hb hby own_d_method_3_code_164) (by decide) rfl ?_
                                    refine own_icmp_ne X0 hx (hb hby own_d_method_3_code_166) (by decide) rfl rfl (fun hc166_18 => ?_) (fun hc166_18 => ?_)
                                    · refine own_iloadN X0 hx (hb hby own_d_method_3_code_173) rfl rfl ?_
                                      refine own_bipush X0 hx (18 : Int32) (hb hby own_d_method_3_code_174) (by decide) rfl ?_
                                      refine own_icmp_ne X0 hx (hb hby own_d_method_3_code_176) (by decide) rfl rfl (fun hc176_19 => ?_) (fun hc176_19 => ?_)
                                      · refine own_getS X0 hx hZ hown (host := "") (Or.inl (hw _ (List.mem_of_getElem? (i := 48) rfl))) Via.refl e0 ((HS ("DATATYPE", 19) (List.mem_of_getElem? (i := 19) rfl)).ext O0.2) (hb hby own_d_method_3_code_183) rfl ?_
                                        intro T20 X20 e20
                                        exact own_retA X20 hx hlocks hret rfl rfl (hb hby own_d_method_3_code_186) (by decide) (by decide) ⟨congrArg (fun q => some (Value.ref (o q))) (own_last hp hc1_1 hc10_2 hc19_3 hc28_4 hc37_5 hc46_6 hc56_7 hc66_8 hc76_9 hc86_10 hc96_11 hc106_12 hc116_13 hc126_14 hc136_15 hc146_16 hc156_17 hc166_18 hc176_19).symm, N0, e20⟩
                                      · refine own_getS X0 hx hZ hown (host := "") (Or.inl (hw _ (List.mem_of_getElem? (i := 67) rfl))) Via.refl e0 ((HS ("LANG", 18) (List.mem_of_getElem? (i := 18) rfl)).ext O0.2) (hb hby own_d_method_3_code_179) rfl ?_
                                        intro T21 X21 e21
                                        exact own_retA X21 hx hlocks hret rfl rfl (hb hby own_d_method_3_code_182) (by decide) (by decide) ⟨congrArg (fun q => some (Value.ref (o q))) hc176_19.symm, N0, e21⟩
                                    · refine own_getS X0 hx hZ hown (host := "") (Or.inl (hw _ (List.mem_of_getElem? (i := 53) rfl))) Via.refl e0 ((HS ("STR", 17) (List.mem_of_getElem? (i := 17) rfl)).ext O0.2) (hb hby own_d_method_3_code_169) rfl ?_
                                      intro T22 X22 e22
                                      exact own_retA X22 hx hlocks hret rfl rfl (hb hby own_d_method_3_code_172) (by decide) (by decide) ⟨congrArg (fun q => some (Value.ref (o q))) hc166_18.symm, N0, e22⟩
                                  · refine own_getS X0 hx hZ hown (host := "") (Or.inl (hw _ (List.mem_of_getElem? (i := 55) rfl))) Via.refl e0 ((HS ("IS_LITERAL", 16) (List.mem_of_getElem? (i := 16) rfl)).ext O0.2) (hb hby own_d_method_3_code_159) rfl ?_
                                    intro T23 X23 e23
                                    exact own_retA X23 hx hlocks hret rfl rfl (hb hby own_d_method_3_code_162) (by decide) (by decide) ⟨congrArg (fun q => some (Value.ref (o q))) hc156_17.symm, N0, e23⟩
                                · refine own_getS X0 hx hZ hown (host := "") (Or.inl (hw _ (List.mem_of_getElem? (i := 50) rfl))) Via.refl e0 ((HS ("IS_IRI", 15) (List.mem_of_getElem? (i := 15) rfl)).ext O0.2) (hb hby own_d_method_3_code_149) rfl ?_
                                  intro T24 X24 e24
                                  exact own_retA X24 hx hlocks hret rfl rfl (hb hby own_d_method_3_code_152) (by decide) (by decide) ⟨congrArg (fun q => some (Value.ref (o q))) hc146_16.symm, N0, e24⟩
                              · refine own_getS X0 hx hZ hown (host := "") (Or.inl (hw _ (List.mem_of_getElem? (i := 41) rfl))) Via.refl e0 ((HS ("SAME_TERM", 14) (List.mem_of_getElem? (i := 14) rfl)).ext O0.2) (hb hby own_d_method_3_code_139) rfl ?_
                                intro T25 X25 e25
                                exact own_retA X25 hx hlocks hret rfl rfl (hb hby own_d_method_3_code_142) (by decide) (by decide) ⟨congrArg (fun q => some (Value.ref (o q))) hc136_15.symm, N0, e25⟩
                            · refine own_getS X0 hx hZ hown (host := "") (Or.inl (hw _ (List.mem_of_getElem? (i := 65) rfl))) Via.refl e0 ((HS ("DIVIDE", 13) (List.mem_of_getElem? (i := 13) rfl)).ext O0.2) (hb hby own_d_method_3_code_129) rfl ?_
                              intro T26 X26 e26
                              exact own_retA X26 hx hlocks hret rfl rfl (hb hby own_d_method_3_code_132) (by decide) (by decide) ⟨congrArg (fun q => some (Value.ref (o q))) hc126_14.symm, N0, e26⟩
                          · refine own_getS X0 hx hZ hown (host := "") (Or.inl (hw _ (List.mem_of_getElem? (i := 56) rfl))) Via.refl e0 ((HS ("MULTIPLY", 12) (List.mem_of_getElem? (i := 12) rfl)).ext O0.2) (hb hby own_d_method_3_code_119) rfl ?_
                            intro T27 X27 e27
                            exact own_retA X27 hx hlocks hret rfl rfl (hb hby own_d_method_3_code_122) (by decide) (by decide) ⟨congrArg (fun q => some (Value.ref (o q))) hc116_13.symm, N0, e27⟩
                        · refine own_getS X0 hx hZ hown (host := "") (Or.inl (hw _ (List.mem_of_getElem? (i := 39) rfl))) Via.refl e0 ((HS ("SUBTRACT", 11) (List.mem_of_getElem? (i := 11) rfl)).ext O0.2) (hb hby own_d_method_3_code_109) rfl ?_
                          intro T28 X28 e28
                          exact own_retA X28 hx hlocks hret rfl rfl (hb hby own_d_method_3_code_112) (by decide) (by decide) ⟨congrArg (fun q => some (Value.ref (o q))) hc106_12.symm, N0, e28⟩
                      · refine own_getS X0 hx hZ hown (host := "") (Or.inl (hw _ (List.mem_of_getElem? (i := 36) rfl))) Via.refl e0 ((HS ("ADD", 10) (List.mem_of_getElem? (i := 10) rfl)).ext O0.2) (hb hby own_d_method_3_code_99) rfl ?_
                        intro T29 X29 e29
                        exact own_retA X29 hx hlocks hret rfl rfl (hb hby own_d_method_3_code_102) (by decide) (by decide) ⟨congrArg (fun q => some (Value.ref (o q))) hc96_11.symm, N0, e29⟩
                    · refine own_getS X0 hx hZ hown (host := "") (Or.inl (hw _ (List.mem_of_getElem? (i := 63) rfl))) Via.refl e0 ((HS ("GREATER_OR_EQUAL", 9) (List.mem_of_getElem? (i := 9) rfl)).ext O0.2) (hb hby own_d_method_3_code_89) rfl ?_
                      intro T30 X30 e30
                      exact own_retA X30 hx hlocks hret rfl rfl (hb hby own_d_method_3_code_92) (by decide) (by decide) ⟨congrArg (fun q => some (Value.ref (o q))) hc86_10.symm, N0, e30⟩
                  · refine own_getS X0 hx hZ hown (host := "") (Or.inl (hw _ (List.mem_of_getElem? (i := 45) rfl))) Via.refl e0 ((HS ("LESS_OR_EQUAL", 8) (List.mem_of_getElem? (i := 8) rfl)).ext O0.2) (hb hby own_d_method_3_code_79) rfl ?_
                    intro T31 X31 e31
                    exact own_retA X31 hx hlocks hret rfl rfl (hb hby own_d_method_3_code_82) (by decide) (by decide) ⟨congrArg (fun q => some (Value.ref (o q))) hc76_9.symm, N0, e31⟩
                · refine own_getS X0 hx hZ hown (host := "") (Or.inl (hw _ (List.mem_of_getElem? (i := 42) rfl))) Via.refl e0 ((HS ("GREATER", 7) (List.mem_of_getElem? (i := 7) rfl)).ext O0.2) (hb hby own_d_method_3_code_69) rfl ?_
                  intro T32 X32 e32
                  exact own_retA X32 hx hlocks hret rfl rfl (hb hby own_d_method_3_code_72) (by decide) (by decide) ⟨congrArg (fun q => some (Value.ref (o q))) hc66_8.symm, N0, e32⟩
              · refine own_getS X0 hx hZ hown (host := "") (Or.inl (hw _ (List.mem_of_getElem? (i := 51) rfl))) Via.refl e0 ((HS ("LESS", 6) (List.mem_of_getElem? (i := 6) rfl)).ext O0.2) (hb hby own_d_method_3_code_59) rfl ?_
                intro T33 X33 e33
                exact own_retA X33 hx hlocks hret rfl rfl (hb hby own_d_method_3_code_62) (by decide) (by decide) ⟨congrArg (fun q => some (Value.ref (o q))) hc56_7.symm, N0, e33⟩
            · refine own_getS X0 hx hZ hown (host := "") (Or.inl (hw _ (List.mem_of_getElem? (i := 59) rfl))) Via.refl e0 ((HS ("NOT_EQUAL", 5) (List.mem_of_getElem? (i := 5) rfl)).ext O0.2) (hb hby own_d_method_3_code_49) rfl ?_
              intro T34 X34 e34
              exact own_retA X34 hx hlocks hret rfl rfl (hb hby own_d_method_3_code_52) (by decide) (by decide) ⟨congrArg (fun q => some (Value.ref (o q))) hc46_6.symm, N0, e34⟩
          · refine own_getS X0 hx hZ hown (host := "") (Or.inl (hw _ (List.mem_of_getElem? (i := 61) rfl))) Via.refl e0 ((HS ("EQUAL", 4) (List.mem_of_getElem? (i := 4) rfl)).ext O0.2) (hb hby own_d_method_3_code_40) rfl ?_
            intro T35 X35 e35
            exact own_retA X35 hx hlocks hret rfl rfl (hb hby own_d_method_3_code_43) (by decide) (by decide) ⟨congrArg (fun q => some (Value.ref (o q))) hc37_5.symm, N0, e35⟩
        · refine own_getS X0 hx hZ hown (host := "") (Or.inl (hw _ (List.mem_of_getElem? (i := 35) rfl))) Via.refl e0 ((HS ("NOT", 3) (List.mem_of_getElem? (i := 3) rfl)).ext O0.2) (hb hby own_d_method_3_code_31) rfl ?_
          intro T36 X36 e36
          exact own_retA X36 hx hlocks hret rfl rfl (hb hby own_d_method_3_code_34) (by decide) (by decide) ⟨congrArg (fun q => some (Value.ref (o q))) hc28_4.symm, N0, e36⟩
      · refine own_getS X0 hx hZ hown (host := "") (Or.inl (hw _ (List.mem_of_getElem? (i := 44) rfl))) Via.refl e0 ((HS ("AND", 2) (List.mem_of_getElem? (i := 2) rfl)).ext O0.2) (hb hby own_d_method_3_code_22) rfl ?_
        intro T37 X37 e37
        exact own_retA X37 hx hlocks hret rfl rfl (hb hby own_d_method_3_code_25) (by decide) (by decide) ⟨congrArg (fun q => some (Value.ref (o q))) hc19_3.symm, N0, e37⟩
    · refine own_getS X0 hx hZ hown (host := "") (Or.inl (hw _ (List.mem_of_getElem? (i := 47) rfl))) Via.refl e0 ((HS ("OR", 1) (List.mem_of_getElem? (i := 1) rfl)).ext O0.2) (hb hby own_d_method_3_code_13) rfl ?_
      intro T38 X38 e38
      exact own_retA X38 hx hlocks hret rfl rfl (hb hby own_d_method_3_code_16) (by decide) (by decide) ⟨congrArg (fun q => some (Value.ref (o q))) hc10_2.symm, N0, e38⟩
  · refine own_getS X0 hx hZ hown (host := "") (Or.inl (hw _ (List.mem_of_getElem? (i := 5) rfl))) Via.refl e0 ((HS ("TERM", 0) (List.mem_of_getElem? (i := 0) rfl)).ext O0.2) (hb hby own_d_method_3_code_4) rfl ?_
    intro T39 X39 e39
    exact own_retA X39 hx hlocks hret rfl rfl (hb hby own_d_method_3_code_7) (by decide) (by decide) ⟨congrArg (fun q => some (Value.ref (o q))) hc1_1.symm, N0, e39⟩
set_option maxRecDepth 65536 in
set_option maxHeartbeats 40000000 in
theorem own_isTest (l : Launch) (Z : State) (a0 : Array Value) (hw : ∀ d ∈ tables_1, d.before a0 Z = true) (o : Int32 → Addr) (a : Addr) (h0 : Heap) (n0 : Nat) (O0 : Old Z n0 h0) (HS : ∀ q ∈ own_names, Sta Z Z.heap "com/example/pincio/pincio/core/Expression$Operator" q.1 "Lcom/example/pincio/pincio/core/Expression$Operator;" (.ref (o q.2))) :
    own_Met l (⟨"com/example/pincio/pincio/core/Expression$Operator", "isTest", "()Z"⟩ : MethodName) prog_41_method_5_code 1 (some .boolean) ({ frames := 0, cells := 0, slots := 0, locals := 0 } : Room) Z #[(.ref a)] h0 (fun v h L => v = some (.int (own_tst o a)) ∧ Fr n0 L ∧ h = h0) := by
  refine own_met (plainFor_of_name own_pn_com_example_pincio_pincio_core_Expression_Operator) ?_
  intro p e s m below meth c T0 hx hby hml hZ hown hnm hret hlocks X0 e0 hh0
  have ef : entryFrame m #[(.ref a)] 1 = mkF m 0 #[.val (.ref a)] [] := by first | rfl | (simp [entryFrame, mkF, argsToLocals, Value.category]; done)
  refine own_entry ef ?_
  have N0 := Fr.nil n0
  refine own_aloadN X0 hx (hb hby own_d_prog_41_method_5_code_0) rfl rfl rfl ?_
  refine own_getS X0 hx hZ hown (host := "") (Or.inl (hw _ (List.mem_of_getElem? (i := 29) rfl))) Via.refl e0 ((HS ("SAME_TERM", 14) (List.mem_of_getElem? (i := 14) rfl)).ext O0.2) (hb hby own_d_prog_41_method_5_code_1) rfl ?_
  intro T1 X1 e1
  refine own_acmp_eq X1 hx (hb hby own_d_prog_41_method_5_code_4) (by decide) rfl rfl (fun hc4_2 => ?_) (fun hc4_2 => ?_)
  · refine own_iconst X1 hx (1 : Int32) (hb hby own_d_prog_41_method_5_code_21) (by decide) rfl ?_
    refine own_goto X1 hx (hb hby own_d_prog_41_method_5_code_22) (by decide) rfl ?_
    exact own_retN X1 hx hlocks hret (by simp) (hb hby own_d_prog_41_method_5_code_26) (by decide) (by decide) (by decide) ⟨congrArg (fun q => some (Value.int q)) (by simp [own_tst, hc4_2]), N0, e1⟩
  · refine own_aloadN X1 hx (hb hby own_d_prog_41_method_5_code_7) rfl rfl rfl ?_
    refine own_getS X1 hx hZ hown (host := "") (Or.inl (hw _ (List.mem_of_getElem? (i := 31) rfl))) Via.refl e1 ((HS ("IS_IRI", 15) (List.mem_of_getElem? (i := 15) rfl)).ext O0.2) (hb hby own_d_prog_41_method_5_code_8) rfl ?_
    intro T3 X3 e3
    refine own_acmp_eq X3 hx (hb hby own_d_prog_41_method_5_code_11) (by decide) rfl rfl (fun hc11_4 => ?_) (fun hc11_4 => ?_)
    · refine own_iconst X3 hx (1 : Int32) (hb hby own_d_prog_41_method_5_code_21) (by decide) rfl ?_
      refine own_goto X3 hx (hb hby own_d_prog_41_method_5_code_22) (by decide) rfl ?_
      exact own_retN X3 hx hlocks hret (by simp) (hb hby own_d_prog_41_method_5_code_26) (by decide) (by decide) (by decide) ⟨congrArg (fun q => some (Value.int q)) (by simp [own_tst, hc4_2, hc11_4]), N0, e3⟩
    · refine own_aloadN X3 hx (hb hby own_d_prog_41_method_5_code_14) rfl rfl rfl ?_
      refine own_getS X3 hx hZ hown (host := "") (Or.inl (hw _ (List.mem_of_getElem? (i := 33) rfl))) Via.refl e3 ((HS ("IS_LITERAL", 16) (List.mem_of_getElem? (i := 16) rfl)).ext O0.2) (hb hby own_d_prog_41_method_5_code_15) rfl ?_
      intro T5 X5 e5
      refine own_acmp_ne X5 hx (hb hby own_d_prog_41_method_5_code_18) (by decide) rfl rfl (fun hc18_6 => ?_) (fun hc18_6 => ?_)
      · refine own_iconst X5 hx (0 : Int32) (hb hby own_d_prog_41_method_5_code_25) (by decide) rfl ?_
        exact own_retN X5 hx hlocks hret (by simp) (hb hby own_d_prog_41_method_5_code_26) (by decide) (by decide) (by decide) ⟨congrArg (fun q => some (Value.int q)) (by simp [own_tst, hc4_2, hc11_4, hc18_6]), N0, e5⟩
      · refine own_iconst X5 hx (1 : Int32) (hb hby own_d_prog_41_method_5_code_21) (by decide) rfl ?_
        refine own_goto X5 hx (hb hby own_d_prog_41_method_5_code_22) (by decide) rfl ?_
        exact own_retN X5 hx hlocks hret (by simp) (hb hby own_d_prog_41_method_5_code_26) (by decide) (by decide) (by decide) ⟨congrArg (fun q => some (Value.int q)) (by simp [own_tst, hc4_2, hc11_4, hc18_6]), N0, e5⟩
set_option maxRecDepth 65536 in
set_option maxHeartbeats 40000000 in
theorem own_isLogical (l : Launch) (Z : State) (a0 : Array Value) (hw : ∀ d ∈ tables_1, d.before a0 Z = true) (o : Int32 → Addr) (rel a pr : Addr) (h0 : Heap) (n0 : Nat) (O0 : Old Z n0 h0) (HS : ∀ q ∈ own_names, Sta Z Z.heap "com/example/pincio/pincio/core/Expression$Operator" q.1 "Lcom/example/pincio/pincio/core/Expression$Operator;" (.ref (o q.2))) (SR : Sta Z Z.heap "com/example/pincio/pincio/core/Expression$Precedence" "RELATIONAL" "Lcom/example/pincio/pincio/core/Expression$Precedence;" (.ref rel)) (E0 : Exa Z h0 a "com/example/pincio/pincio/core/Expression$Operator") (FP : Fld Z h0 a "com/example/pincio/pincio/core/Expression$Operator" "precedence" "Lcom/example/pincio/pincio/core/Expression$Precedence;" (.ref pr)) :
    own_Met l (⟨"com/example/pincio/pincio/core/Expression$Operator", "isLogical", "()Z"⟩ : MethodName) prog_41_method_4_code 1 (some .boolean) ({ frames := 1, cells := 0, slots := 0, locals := 12 } : Room) Z #[(.ref a)] h0 (fun v h L => v = some (.int (own_log o rel a pr)) ∧ Fr n0 L ∧ h = h0) := by
  refine own_met (plainFor_of_name own_pn_com_example_pincio_pincio_core_Expression_Operator) ?_
  intro p e s m below meth c T0 hx hby hml hZ hown hnm hret hlocks X0 e0 hh0
  have ef : entryFrame m #[(.ref a)] 1 = mkF m 0 #[.val (.ref a)] [] := by first | rfl | (simp [entryFrame, mkF, argsToLocals, Value.category]; done)
  refine own_entry ef ?_
  have N0 := Fr.nil n0
  refine own_aloadN X0 hx (hb hby own_d_prog_41_method_4_code_0) rfl rfl rfl ?_
  refine own_getS X0 hx hZ hown (host := "") (Or.inl (hw _ (List.mem_of_getElem? (i := 13) rfl))) Via.refl e0 ((HS ("OR", 1) (List.mem_of_getElem? (i := 1) rfl)).ext O0.2) (hb hby own_d_prog_41_method_4_code_1) rfl ?_
  intro T1 X1 e1
  refine own_acmp_eq X1 hx (hb hby own_d_prog_41_method_4_code_4) (by decide) rfl rfl (fun hc4_2 => ?_) (fun hc4_2 => ?_)
  · refine own_iconst X1 hx (1 : Int32) (hb hby own_d_prog_41_method_4_code_38) (by decide) rfl ?_
    refine own_goto X1 hx (hb hby own_d_prog_41_method_4_code_39) (by decide) rfl ?_
    exact own_retN X1 hx hlocks hret (by simp) (hb hby own_d_prog_41_method_4_code_43) (by decide) (by decide) (by decide) ⟨congrArg (fun q => some (Value.int q)) (by simp [own_log, hc4_2]), N0, e1⟩
  · refine own_aloadN X1 hx (hb hby own_d_prog_41_method_4_code_7) rfl rfl rfl ?_
    refine own_getS X1 hx hZ hown (host := "") (Or.inl (hw _ (List.mem_of_getElem? (i := 15) rfl))) Via.refl e1 ((HS ("AND", 2) (List.mem_of_getElem? (i := 2) rfl)).ext O0.2) (hb hby own_d_prog_41_method_4_code_8) rfl ?_
    intro T3 X3 e3
    refine own_acmp_eq X3 hx (hb hby own_d_prog_41_method_4_code_11) (by decide) rfl rfl (fun hc11_4 => ?_) (fun hc11_4 => ?_)
    · refine own_iconst X3 hx (1 : Int32) (hb hby own_d_prog_41_method_4_code_38) (by decide) rfl ?_
      refine own_goto X3 hx (hb hby own_d_prog_41_method_4_code_39) (by decide) rfl ?_
      exact own_retN X3 hx hlocks hret (by simp) (hb hby own_d_prog_41_method_4_code_43) (by decide) (by decide) (by decide) ⟨congrArg (fun q => some (Value.int q)) (by simp [own_log, hc4_2, hc11_4]), N0, e3⟩
    · refine own_aloadN X3 hx (hb hby own_d_prog_41_method_4_code_14) rfl rfl rfl ?_
      refine own_getS X3 hx hZ hown (host := "") (Or.inl (hw _ (List.mem_of_getElem? (i := 17) rfl))) Via.refl e3 ((HS ("NOT", 3) (List.mem_of_getElem? (i := 3) rfl)).ext O0.2) (hb hby own_d_prog_41_method_4_code_15) rfl ?_
      intro T5 X5 e5
      refine own_acmp_eq X5 hx (hb hby own_d_prog_41_method_4_code_18) (by decide) rfl rfl (fun hc18_6 => ?_) (fun hc18_6 => ?_)
      · refine own_iconst X5 hx (1 : Int32) (hb hby own_d_prog_41_method_4_code_38) (by decide) rfl ?_
        refine own_goto X5 hx (hb hby own_d_prog_41_method_4_code_39) (by decide) rfl ?_
        exact own_retN X5 hx hlocks hret (by simp) (hb hby own_d_prog_41_method_4_code_43) (by decide) (by decide) (by decide) ⟨congrArg (fun q => some (Value.int q)) (by simp [own_log, hc4_2, hc11_4, hc18_6]), N0, e5⟩
      · refine own_aloadN X5 hx (hb hby own_d_prog_41_method_4_code_21) rfl rfl rfl ?_
        refine own_getF X5 hx hZ hown (host := "") (Or.inl (hw _ (List.mem_of_getElem? (i := 19) rfl))) Via.refl e5 FP (hb hby own_d_prog_41_method_4_code_22) rfl ?_
        intro T7 X7 e7
        refine own_getS X7 hx hZ hown (host := "") (Or.inl (hw _ (List.mem_of_getElem? (i := 23) rfl))) Via.refl e7 (SR.ext O0.2) (hb hby own_d_prog_41_method_4_code_25) rfl ?_
        intro T8 X8 e8
        refine own_acmp_eq X8 hx (hb hby own_d_prog_41_method_4_code_28) (by decide) rfl rfl (fun hc28_9 => ?_) (fun hc28_9 => ?_)
        · refine own_iconst X8 hx (1 : Int32) (hb hby own_d_prog_41_method_4_code_38) (by decide) rfl ?_
          refine own_goto X8 hx (hb hby own_d_prog_41_method_4_code_39) (by decide) rfl ?_
          exact own_retN X8 hx hlocks hret (by simp) (hb hby own_d_prog_41_method_4_code_43) (by decide) (by decide) (by decide) ⟨congrArg (fun q => some (Value.int q)) (by simp [own_log, hc4_2, hc11_4, hc18_6, hc28_9]), N0, e8⟩
        · refine own_aloadN X8 hx (hb hby own_d_prog_41_method_4_code_31) rfl rfl rfl ?_
          refine own_private X8 hx hZ (y := (⟨"com/example/pincio/pincio/core/Expression$Operator", "isTest", "()Z"⟩ : MethodName)) hown (hw _ (List.mem_of_getElem? (i := 25) rfl)) (own_nf (z := (⟨"com/example/pincio/pincio/core/Expression$Operator", "isLogical", "()Z"⟩ : MethodName)) hZ (hw _ (List.mem_of_getElem? (i := 11) rfl))) (hw _ (List.mem_of_getElem? (i := 26) rfl)) (hw _ (List.mem_of_getElem? (i := 27) rfl)) (hw _ (List.mem_of_getElem? (i := 6) rfl)) (hw _ (List.mem_of_getElem? (i := 28) rfl)) (by decide) e8 (by decide) (W := 0) (by decide) (by decide) (by decide) [] [] (by rw [hml]; rfl) E0 (own_isTest l Z a0 hw o a h0 n0 O0 HS) own_pd0 rfl rfl rfl (hb hby own_d_prog_41_method_4_code_32) rfl ?_
          intro v10 T10 L10 X10 hQ10
          obtain ⟨rfl, Nq10, hh10⟩ := hQ10
          have N10 := Fr.app N0 Nq10
          show own_Ends p e below _ (T10.setTop (mkF m 35 #[.val (.ref a)] [(.int (own_tst o a))]))
          refine own_if_eq X10 hx (hb hby own_d_prog_41_method_4_code_35) (by decide) rfl rfl (fun hc35_11 => ?_) (fun hc35_11 => ?_)
          · refine own_iconst X10 hx (0 : Int32) (hb hby own_d_prog_41_method_4_code_42) (by decide) rfl ?_
            exact own_retN X10 hx hlocks hret (by simp) (hb hby own_d_prog_41_method_4_code_43) (by decide) (by decide) (by decide) ⟨congrArg (fun q => some (Value.int q)) (by simp [own_log, hc4_2, hc11_4, hc18_6, hc28_9, hc35_11]), N10, hh10⟩
          · refine own_iconst X10 hx (1 : Int32) (hb hby own_d_prog_41_method_4_code_38) (by decide) rfl ?_
            refine own_goto X10 hx (hb hby own_d_prog_41_method_4_code_39) (by decide) rfl ?_
            exact own_retN X10 hx hlocks hret (by simp) (hb hby own_d_prog_41_method_4_code_43) (by decide) (by decide) (by decide) ⟨congrArg (fun q => some (Value.int q)) (by simp [own_log, hc4_2, hc11_4, hc18_6, hc28_9, hc35_11]), N10, hh10⟩
set_option maxRecDepth 65536 in
set_option maxHeartbeats 40000000 in
theorem own_law (l : Launch) (Z : State) (a0 : Array Value) (hw : ∀ d ∈ tables_1, d.before a0 Z = true) (o pr : Int32 → Addr) (rel : Addr) (p1 : Int32) (h0 : Heap) (n0 : Nat) (O0 : Old Z n0 h0) (HS : ∀ q ∈ own_names, Sta Z Z.heap "com/example/pincio/pincio/core/Expression$Operator" q.1 "Lcom/example/pincio/pincio/core/Expression$Operator;" (.ref (o q.2))) (SR : Sta Z Z.heap "com/example/pincio/pincio/core/Expression$Precedence" "RELATIONAL" "Lcom/example/pincio/pincio/core/Expression$Precedence;" (.ref rel)) (HE : ∀ j ∈ own_ix, Exa Z Z.heap (o j) "com/example/pincio/pincio/core/Expression$Operator") (HO : ∀ j ∈ own_ix, Fld Z Z.heap (o j) "java/lang/Enum" "ordinal" "I" (.int j)) (HP : ∀ j ∈ own_ix, Fld Z Z.heap (o j) "com/example/pincio/pincio/core/Expression$Operator" "precedence" "Lcom/example/pincio/pincio/core/Expression$Precedence;" (.ref (pr j))) (HR1 : ∀ j ∈ [(4 : Int32), 5, 6, 7, 8, 9], pr j = rel) (HR2 : ∀ j ∈ [(0 : Int32), 10, 11, 12, 13, 14, 15, 16, 17, 18, 19], ¬ pr j = rel) :
    own_Met l x code maxLocals ret room_1 Z #[(.int p1)] h0 (fun v h L => v = some (.int 1) ∧ Fr n0 L) := by
  refine own_met (plainFor_of_name own_pn_com_example_pincio_pincio_core_OperatorIsLogicalPinLaw) ?_
  intro p e s m below meth c T0 hx hby hml hZ hown hnm hret hlocks X0 e0 hh0
  have ef : entryFrame m #[(.int p1)] maxLocals = mkF m 0 #[.val (.int p1), .unset, .unset, .unset] [] := by first | rfl | (simp [entryFrame, mkF, argsToLocals, Value.category, maxLocals]; done)
  refine own_entry ef ?_
  have N0 := Fr.nil n0
  refine own_iloadN X0 hx (hb hby at_0) rfl rfl ?_
  refine own_ldcInt X0 hx hZ hown (hw _ (List.mem_of_getElem? (i := 0) rfl)) (hb hby at_1) rfl ?_
  refine own_iand X0 hx (hb hby at_3) rfl ?_
  refine own_bipush X0 hx (20 : Int32) (hb hby at_4) (by decide) rfl ?_
  refine own_irem X0 hx (hb hby at_6) (by decide) rfl ?_
  obtain ⟨i, hi⟩ : ∃ i : Int32, i = ((p1 &&& (2147483647 : Int32)) % (20 : Int32)) := ⟨_, rfl⟩
  rw [← hi]
  have him : i ∈ own_ix := hi ▸ own_rem p1
  refine own_istoreN X0 hx #[.val (.int p1), .val (.int i), .unset, .unset] (hb hby at_7) rfl rfl ?_
  refine own_iloadN X0 hx (hb hby at_8) rfl rfl ?_
  refine own_static X0 hx hZ (y := (⟨"com/example/pincio/pincio/core/OperatorIsLogicalPinLaw", "pick", "(I)Lcom/example/pincio/pincio/core/Expression$Operator;"⟩ : MethodName)) hown (hw _ (List.mem_of_getElem? (i := 1) rfl)) (hw _ (List.mem_of_getElem? (i := 2) rfl)) (hw _ (List.mem_of_getElem? (i := 3) rfl)) (hw _ (List.mem_of_getElem? (i := 4) rfl)) (by decide) e0 (by decide) (W := 0) (by decide) (by decide) (by decide) [(.int i)] [] (by rw [hml]; rfl) (own_pick l Z a0 hw o i h0 n0 O0 HS him) own_pd1 rfl rfl rfl (hb hby at_9) rfl ?_
  intro v1 T1 L1 X1 hQ1
  obtain ⟨rfl, Nq1, hh1⟩ := hQ1
  have N1 := Fr.app N0 Nq1
  have Eo := (HE i him).ext O0.2
  show own_Ends p e below _ (T1.setTop (mkF m 12 #[.val (.int p1), .val (.int i), .unset, .unset] [(.ref (o i))]))
  refine own_astoreN X1 hx #[.val (.int p1), .val (.int i), .val (.ref (o i)), .unset] (hb hby at_12) rfl rfl rfl ?_
  refine own_iloadN X1 hx (hb hby at_13) rfl rfl ?_
  refine own_iconst X1 hx (1 : Int32) (hb hby at_14) (by decide) rfl ?_
  refine own_icmp_lt X1 hx (hb hby at_15) (by decide) rfl rfl (fun hc15_2 => ?_) (fun hc15_2 => ?_)
  · refine own_iloadN X1 hx (hb hby at_24) rfl rfl ?_
    refine own_bipush X1 hx (14 : Int32) (hb hby at_25) (by decide) rfl ?_
    refine own_icmp_lt X1 hx (hb hby at_27) (by decide) rfl rfl (fun hc27_3 => ?_) (fun hc27_3 => ?_)
    · refine own_iconst X1 hx (0 : Int32) (hb hby at_40) (by decide) rfl ?_
      refine own_istoreN X1 hx #[.val (.int p1), .val (.int i), .val (.ref (o i)), .val (.int (0 : Int32))] (hb hby at_41) rfl rfl ?_
      refine own_aloadN X1 hx (hb hby at_42) rfl rfl rfl ?_
      refine own_virtual X1 hx hZ (y := (⟨"com/example/pincio/pincio/core/Expression$Operator", "isLogical", "()Z"⟩ : MethodName)) (z := (⟨"com/example/pincio/pincio/core/Expression$Operator", "isLogical", "()Z"⟩ : MethodName)) hown (hw _ (List.mem_of_getElem? (i := 8) rfl)) (hw _ (List.mem_of_getElem? (i := 9) rfl)) (notFace_of_selects (args := #[]) (mvT hZ (hw _ (List.mem_of_getElem? (i := 11) rfl)))) (hw _ (List.mem_of_getElem? (i := 11) rfl)) (hw _ (List.mem_of_getElem? (i := 10) rfl)) (hw _ (List.mem_of_getElem? (i := 6) rfl)) (hw _ (List.mem_of_getElem? (i := 12) rfl)) (by decide) hh1 (by decide) (W := 0) (by decide) (by decide) (by decide) [] [] (by rw [hml]; rfl) Eo (own_isLogical l Z a0 hw o rel (o i) (pr i) h0 n0 O0 HS SR Eo ((HP i him).ext O0.2)) own_pd0 rfl rfl rfl (hb hby at_43) rfl ?_
      intro v4 T4 L4 X4 hQ4
      obtain ⟨rfl, Nq4, hh4⟩ := hQ4
      have N4 := Fr.app N1 Nq4
      show own_Ends p e below _ (T4.setTop (mkF m 46 #[.val (.int p1), .val (.int i), .val (.ref (o i)), .val (.int (0 : Int32))] [(.int (own_log o rel (o i) (pr i)))]))
      refine own_iloadN X4 hx (hb hby at_46) rfl rfl ?_
      refine own_icmpF X4 hx (hb hby at_47) rfl (teq ((own_plain HO HR1 HR2 him).trans (by simp [own_exp, hc15_2, hc27_3]))).2 ?_
      refine own_iconst X4 hx (1 : Int32) (hb hby at_50) (by decide) rfl ?_
      refine own_goto X4 hx (hb hby at_51) (by decide) rfl ?_
      exact own_retN X4 hx hlocks hret (by simp) (hb hby at_55) (by decide) (by decide) (by decide) ⟨rfl, N4⟩
    · refine own_iloadN X1 hx (hb hby at_30) rfl rfl ?_
      refine own_bipush X1 hx (16 : Int32) (hb hby at_31) (by decide) rfl ?_
      refine own_icmp_gt X1 hx (hb hby at_33) (by decide) rfl rfl (fun hc33_5 => ?_) (fun hc33_5 => ?_)
      · refine own_iconst X1 hx (0 : Int32) (hb hby at_40) (by decide) rfl ?_
        refine own_istoreN X1 hx #[.val (.int p1), .val (.int i), .val (.ref (o i)), .val (.int (0 : Int32))] (hb hby at_41) rfl rfl ?_
        refine own_aloadN X1 hx (hb hby at_42) rfl rfl rfl ?_
        refine own_virtual X1 hx hZ (y := (⟨"com/example/pincio/pincio/core/Expression$Operator", "isLogical", "()Z"⟩ : MethodName)) (z := (⟨"com/example/pincio/pincio/core/Expression$Operator", "isLogical", "()Z"⟩ : MethodName)) hown (hw _ (List.mem_of_getElem? (i := 8) rfl)) (hw _ (List.mem_of_getElem? (i := 9) rfl)) (notFace_of_selects (args := #[]) (mvT hZ (hw _ (List.mem_of_getElem? (i := 11) rfl)))) (hw _ (List.mem_of_getElem? (i := 11) rfl)) (hw _ (List.mem_of_getElem? (i := 10) rfl)) (hw _ (List.mem_of_getElem? (i := 6) rfl)) (hw _ (List.mem_of_getElem? (i := 12) rfl)) (by decide) hh1 (by decide) (W := 0) (by decide) (by decide) (by decide) [] [] (by rw [hml]; rfl) Eo (own_isLogical l Z a0 hw o rel (o i) (pr i) h0 n0 O0 HS SR Eo ((HP i him).ext O0.2)) own_pd0 rfl rfl rfl (hb hby at_43) rfl ?_
        intro v6 T6 L6 X6 hQ6
        obtain ⟨rfl, Nq6, hh6⟩ := hQ6
        have N6 := Fr.app N1 Nq6
        show own_Ends p e below _ (T6.setTop (mkF m 46 #[.val (.int p1), .val (.int i), .val (.ref (o i)), .val (.int (0 : Int32))] [(.int (own_log o rel (o i) (pr i)))]))
        refine own_iloadN X6 hx (hb hby at_46) rfl rfl ?_
        refine own_icmpF X6 hx (hb hby at_47) rfl (teq ((own_plain HO HR1 HR2 him).trans (by simp [own_exp, hc15_2, hc27_3, hc33_5]))).2 ?_
        refine own_iconst X6 hx (1 : Int32) (hb hby at_50) (by decide) rfl ?_
        refine own_goto X6 hx (hb hby at_51) (by decide) rfl ?_
        exact own_retN X6 hx hlocks hret (by simp) (hb hby at_55) (by decide) (by decide) (by decide) ⟨rfl, N6⟩
      · refine own_iconst X1 hx (1 : Int32) (hb hby at_36) (by decide) rfl ?_
        refine own_goto X1 hx (hb hby at_37) (by decide) rfl ?_
        refine own_istoreN X1 hx #[.val (.int p1), .val (.int i), .val (.ref (o i)), .val (.int (1 : Int32))] (hb hby at_41) rfl rfl ?_
        refine own_aloadN X1 hx (hb hby at_42) rfl rfl rfl ?_
        refine own_virtual X1 hx hZ (y := (⟨"com/example/pincio/pincio/core/Expression$Operator", "isLogical", "()Z"⟩ : MethodName)) (z := (⟨"com/example/pincio/pincio/core/Expression$Operator", "isLogical", "()Z"⟩ : MethodName)) hown (hw _ (List.mem_of_getElem? (i := 8) rfl)) (hw _ (List.mem_of_getElem? (i := 9) rfl)) (notFace_of_selects (args := #[]) (mvT hZ (hw _ (List.mem_of_getElem? (i := 11) rfl)))) (hw _ (List.mem_of_getElem? (i := 11) rfl)) (hw _ (List.mem_of_getElem? (i := 10) rfl)) (hw _ (List.mem_of_getElem? (i := 6) rfl)) (hw _ (List.mem_of_getElem? (i := 12) rfl)) (by decide) hh1 (by decide) (W := 0) (by decide) (by decide) (by decide) [] [] (by rw [hml]; rfl) Eo (own_isLogical l Z a0 hw o rel (o i) (pr i) h0 n0 O0 HS SR Eo ((HP i him).ext O0.2)) own_pd0 rfl rfl rfl (hb hby at_43) rfl ?_
        intro v7 T7 L7 X7 hQ7
        obtain ⟨rfl, Nq7, hh7⟩ := hQ7
        have N7 := Fr.app N1 Nq7
        show own_Ends p e below _ (T7.setTop (mkF m 46 #[.val (.int p1), .val (.int i), .val (.ref (o i)), .val (.int (1 : Int32))] [(.int (own_log o rel (o i) (pr i)))]))
        refine own_iloadN X7 hx (hb hby at_46) rfl rfl ?_
        refine own_icmpF X7 hx (hb hby at_47) rfl (teq ((own_plain HO HR1 HR2 him).trans (by simp [own_exp, hc15_2, hc27_3, hc33_5]))).2 ?_
        refine own_iconst X7 hx (1 : Int32) (hb hby at_50) (by decide) rfl ?_
        refine own_goto X7 hx (hb hby at_51) (by decide) rfl ?_
        exact own_retN X7 hx hlocks hret (by simp) (hb hby at_55) (by decide) (by decide) (by decide) ⟨rfl, N7⟩
  · refine own_iloadN X1 hx (hb hby at_18) rfl rfl ?_
    refine own_bipush X1 hx (9 : Int32) (hb hby at_19) (by decide) rfl ?_
    refine own_icmp_le X1 hx (hb hby at_21) (by decide) rfl rfl (fun hc21_8 => ?_) (fun hc21_8 => ?_)
    · refine own_iconst X1 hx (1 : Int32) (hb hby at_36) (by decide) rfl ?_
      refine own_goto X1 hx (hb hby at_37) (by decide) rfl ?_
      refine own_istoreN X1 hx #[.val (.int p1), .val (.int i), .val (.ref (o i)), .val (.int (1 : Int32))] (hb hby at_41) rfl rfl ?_
      refine own_aloadN X1 hx (hb hby at_42) rfl rfl rfl ?_
      refine own_virtual X1 hx hZ (y := (⟨"com/example/pincio/pincio/core/Expression$Operator", "isLogical", "()Z"⟩ : MethodName)) (z := (⟨"com/example/pincio/pincio/core/Expression$Operator", "isLogical", "()Z"⟩ : MethodName)) hown (hw _ (List.mem_of_getElem? (i := 8) rfl)) (hw _ (List.mem_of_getElem? (i := 9) rfl)) (notFace_of_selects (args := #[]) (mvT hZ (hw _ (List.mem_of_getElem? (i := 11) rfl)))) (hw _ (List.mem_of_getElem? (i := 11) rfl)) (hw _ (List.mem_of_getElem? (i := 10) rfl)) (hw _ (List.mem_of_getElem? (i := 6) rfl)) (hw _ (List.mem_of_getElem? (i := 12) rfl)) (by decide) hh1 (by decide) (W := 0) (by decide) (by decide) (by decide) [] [] (by rw [hml]; rfl) Eo (own_isLogical l Z a0 hw o rel (o i) (pr i) h0 n0 O0 HS SR Eo ((HP i him).ext O0.2)) own_pd0 rfl rfl rfl (hb hby at_43) rfl ?_
      intro v9 T9 L9 X9 hQ9
      obtain ⟨rfl, Nq9, hh9⟩ := hQ9
      have N9 := Fr.app N1 Nq9
      show own_Ends p e below _ (T9.setTop (mkF m 46 #[.val (.int p1), .val (.int i), .val (.ref (o i)), .val (.int (1 : Int32))] [(.int (own_log o rel (o i) (pr i)))]))
      refine own_iloadN X9 hx (hb hby at_46) rfl rfl ?_
      refine own_icmpF X9 hx (hb hby at_47) rfl (teq ((own_plain HO HR1 HR2 him).trans (by simp [own_exp, hc15_2, hc21_8]))).2 ?_
      refine own_iconst X9 hx (1 : Int32) (hb hby at_50) (by decide) rfl ?_
      refine own_goto X9 hx (hb hby at_51) (by decide) rfl ?_
      exact own_retN X9 hx hlocks hret (by simp) (hb hby at_55) (by decide) (by decide) (by decide) ⟨rfl, N9⟩
    · refine own_iloadN X1 hx (hb hby at_24) rfl rfl ?_
      refine own_bipush X1 hx (14 : Int32) (hb hby at_25) (by decide) rfl ?_
      refine own_icmp_lt X1 hx (hb hby at_27) (by decide) rfl rfl (fun hc27_10 => ?_) (fun hc27_10 => ?_)
      · refine own_iconst X1 hx (0 : Int32) (hb hby at_40) (by decide) rfl ?_
        refine own_istoreN X1 hx #[.val (.int p1), .val (.int i), .val (.ref (o i)), .val (.int (0 : Int32))] (hb hby at_41) rfl rfl ?_
        refine own_aloadN X1 hx (hb hby at_42) rfl rfl rfl ?_
        refine own_virtual X1 hx hZ (y := (⟨"com/example/pincio/pincio/core/Expression$Operator", "isLogical", "()Z"⟩ : MethodName)) (z := (⟨"com/example/pincio/pincio/core/Expression$Operator", "isLogical", "()Z"⟩ : MethodName)) hown (hw _ (List.mem_of_getElem? (i := 8) rfl)) (hw _ (List.mem_of_getElem? (i := 9) rfl)) (notFace_of_selects (args := #[]) (mvT hZ (hw _ (List.mem_of_getElem? (i := 11) rfl)))) (hw _ (List.mem_of_getElem? (i := 11) rfl)) (hw _ (List.mem_of_getElem? (i := 10) rfl)) (hw _ (List.mem_of_getElem? (i := 6) rfl)) (hw _ (List.mem_of_getElem? (i := 12) rfl)) (by decide) hh1 (by decide) (W := 0) (by decide) (by decide) (by decide) [] [] (by rw [hml]; rfl) Eo (own_isLogical l Z a0 hw o rel (o i) (pr i) h0 n0 O0 HS SR Eo ((HP i him).ext O0.2)) own_pd0 rfl rfl rfl (hb hby at_43) rfl ?_
        intro v11 T11 L11 X11 hQ11
        obtain ⟨rfl, Nq11, hh11⟩ := hQ11
        have N11 := Fr.app N1 Nq11
        show own_Ends p e below _ (T11.setTop (mkF m 46 #[.val (.int p1), .val (.int i), .val (.ref (o i)), .val (.int (0 : Int32))] [(.int (own_log o rel (o i) (pr i)))]))
        refine own_iloadN X11 hx (hb hby at_46) rfl rfl ?_
        refine own_icmpF X11 hx (hb hby at_47) rfl (teq ((own_plain HO HR1 HR2 him).trans (by simp [own_exp, hc15_2, hc21_8, hc27_10]))).2 ?_
        refine own_iconst X11 hx (1 : Int32) (hb hby at_50) (by decide) rfl ?_
        refine own_goto X11 hx (hb hby at_51) (by decide) rfl ?_
        exact own_retN X11 hx hlocks hret (by simp) (hb hby at_55) (by decide) (by decide) (by decide) ⟨rfl, N11⟩
      · refine own_iloadN X1 hx (hb hby at_30) rfl rfl ?_
        refine own_bipush X1 hx (16 : Int32) (hb hby at_31) (by decide) rfl ?_
        refine own_icmp_gt X1 hx (hb hby at_33) (by decide) rfl rfl (fun hc33_12 => ?_) (fun hc33_12 => ?_)
        · refine own_iconst X1 hx (0 : Int32) (hb hby at_40) (by decide) rfl ?_
          refine own_istoreN X1 hx #[.val (.int p1), .val (.int i), .val (.ref (o i)), .val (.int (0 : Int32))] (hb hby at_41) rfl rfl ?_
          refine own_aloadN X1 hx (hb hby at_42) rfl rfl rfl ?_
          refine own_virtual X1 hx hZ (y := (⟨"com/example/pincio/pincio/core/Expression$Operator", "isLogical", "()Z"⟩ : MethodName)) (z := (⟨"com/example/pincio/pincio/core/Expression$Operator", "isLogical", "()Z"⟩ : MethodName)) hown (hw _ (List.mem_of_getElem? (i := 8) rfl)) (hw _ (List.mem_of_getElem? (i := 9) rfl)) (notFace_of_selects (args := #[]) (mvT hZ (hw _ (List.mem_of_getElem? (i := 11) rfl)))) (hw _ (List.mem_of_getElem? (i := 11) rfl)) (hw _ (List.mem_of_getElem? (i := 10) rfl)) (hw _ (List.mem_of_getElem? (i := 6) rfl)) (hw _ (List.mem_of_getElem? (i := 12) rfl)) (by decide) hh1 (by decide) (W := 0) (by decide) (by decide) (by decide) [] [] (by rw [hml]; rfl) Eo (own_isLogical l Z a0 hw o rel (o i) (pr i) h0 n0 O0 HS SR Eo ((HP i him).ext O0.2)) own_pd0 rfl rfl rfl (hb hby at_43) rfl ?_
          intro v13 T13 L13 X13 hQ13
          obtain ⟨rfl, Nq13, hh13⟩ := hQ13
          have N13 := Fr.app N1 Nq13
          show own_Ends p e below _ (T13.setTop (mkF m 46 #[.val (.int p1), .val (.int i), .val (.ref (o i)), .val (.int (0 : Int32))] [(.int (own_log o rel (o i) (pr i)))]))
          refine own_iloadN X13 hx (hb hby at_46) rfl rfl ?_
          refine own_icmpF X13 hx (hb hby at_47) rfl (teq ((own_plain HO HR1 HR2 him).trans (by simp [own_exp, hc15_2, hc21_8, hc27_10, hc33_12]))).2 ?_
          refine own_iconst X13 hx (1 : Int32) (hb hby at_50) (by decide) rfl ?_
          refine own_goto X13 hx (hb hby at_51) (by decide) rfl ?_
          exact own_retN X13 hx hlocks hret (by simp) (hb hby at_55) (by decide) (by decide) (by decide) ⟨rfl, N13⟩
        · refine own_iconst X1 hx (1 : Int32) (hb hby at_36) (by decide) rfl ?_
          refine own_goto X1 hx (hb hby at_37) (by decide) rfl ?_
          refine own_istoreN X1 hx #[.val (.int p1), .val (.int i), .val (.ref (o i)), .val (.int (1 : Int32))] (hb hby at_41) rfl rfl ?_
          refine own_aloadN X1 hx (hb hby at_42) rfl rfl rfl ?_
          refine own_virtual X1 hx hZ (y := (⟨"com/example/pincio/pincio/core/Expression$Operator", "isLogical", "()Z"⟩ : MethodName)) (z := (⟨"com/example/pincio/pincio/core/Expression$Operator", "isLogical", "()Z"⟩ : MethodName)) hown (hw _ (List.mem_of_getElem? (i := 8) rfl)) (hw _ (List.mem_of_getElem? (i := 9) rfl)) (notFace_of_selects (args := #[]) (mvT hZ (hw _ (List.mem_of_getElem? (i := 11) rfl)))) (hw _ (List.mem_of_getElem? (i := 11) rfl)) (hw _ (List.mem_of_getElem? (i := 10) rfl)) (hw _ (List.mem_of_getElem? (i := 6) rfl)) (hw _ (List.mem_of_getElem? (i := 12) rfl)) (by decide) hh1 (by decide) (W := 0) (by decide) (by decide) (by decide) [] [] (by rw [hml]; rfl) Eo (own_isLogical l Z a0 hw o rel (o i) (pr i) h0 n0 O0 HS SR Eo ((HP i him).ext O0.2)) own_pd0 rfl rfl rfl (hb hby at_43) rfl ?_
          intro v14 T14 L14 X14 hQ14
          obtain ⟨rfl, Nq14, hh14⟩ := hQ14
          have N14 := Fr.app N1 Nq14
          show own_Ends p e below _ (T14.setTop (mkF m 46 #[.val (.int p1), .val (.int i), .val (.ref (o i)), .val (.int (1 : Int32))] [(.int (own_log o rel (o i) (pr i)))]))
          refine own_iloadN X14 hx (hb hby at_46) rfl rfl ?_
          refine own_icmpF X14 hx (hb hby at_47) rfl (teq ((own_plain HO HR1 HR2 him).trans (by simp [own_exp, hc15_2, hc21_8, hc27_10, hc33_12]))).2 ?_
          refine own_iconst X14 hx (1 : Int32) (hb hby at_50) (by decide) rfl ?_
          refine own_goto X14 hx (hb hby at_51) (by decide) rfl ?_
          exact own_retN X14 hx hlocks hret (by simp) (hb hby at_55) (by decide) (by decide) (by decide) ⟨rfl, N14⟩
theorem own_fldI {args : Array Value} {s : State} {t : Term} {y : Addr} {O n d : String} {k : Int32} (ev : t.eval args s none [] s = some (.ref y)) (h : (Jvm.Cond.eq (.field t O n d) (.int k)).value args s none s [] = some true) : Fld s s.heap y O n d (.int k) := by
  refine Fld.start ?_
  have e1 := fld_at (C := O) (n := n) (dd := d) ev
  cases hv : s.fieldOf? y O n d with
  | none => simp [Cond.value, e1, hv] at h
  | some v =>
    have e2 : (Term.int k).eval args s none [] s = some (.int k) := rfl
    rw [hv] at e1
    cases v <;> simp_all [Cond.value]
theorem own_fldR {args : Array Value} {s : State} {t u : Term} {y z : Addr} {O n d : String} (ev : t.eval args s none [] s = some (.ref y)) (eu : u.eval args s none [] s = some (.ref z)) (h : (Jvm.Cond.eq (.field t O n d) u).value args s none s [] = some true) : Fld s s.heap y O n d (.ref z) := by
  refine Fld.start ?_
  have e1 := fld_at (C := O) (n := n) (dd := d) ev
  cases hv : s.fieldOf? y O n d with
  | none => simp [Cond.value, e1, hv] at h
  | some v =>
    rw [hv] at e1
    cases v <;> simp_all [Cond.value]
def own_sel (L : List Addr) (j : Int32) : Addr := L.getD j.toInt.toNat 0
set_option maxRecDepth 65536 in
set_option maxHeartbeats 40000000 in
theorem comes_1 {Post : Tables → Env → Array Value → State → Outcome → State → Prop} (hpost : ∀ tb e args s v u, (limb_1_1.after args s (.returned v) u = true ∧ limb_1_2.after args s (.returned v) u = true ∧ True) → FrameEnd s (.returned v) u (Jvm.fieldLocs frame_1_writes args s ++ Jvm.arrayLocs frame_1_arrays args s ++ Jvm.staticLocs frame_1_statics s) 0 0 → Post tb e args s (.returned v) u) :
    ArmFor flags0 classFile x code maxLocals ret World_1 tables_1 room_1 Calls_1 rest_1 Pre_1 Post := by
  intro l hfl _ _ p e ha hc hk s m args below hf hA hF happ hP
  obtain ⟨hcalls, hrest, hpre⟩ := hP
  obtain ⟨-, -, -, hnamed, -, -, -, hat⟩ := (Spec.applies_iff hf).mp happ
  obtain ⟨hg, hn⟩ := and_e (Cond.before_iff.mp (show (Jvm.Cond.and given_1 narrow_1).before args s = true from hpre))
  obtain ⟨k1a, k1b⟩ := and_e hg
  obtain ⟨k2a, k2b⟩ := and_e hn
  obtain ⟨k3a, k3b⟩ := and_e k2b
  obtain ⟨k4a, k4b⟩ := and_e k3b
  obtain ⟨k5a, k5b⟩ := and_e k4b
  obtain ⟨k6a, k6b⟩ := and_e k5b
  obtain ⟨k7a, k7b⟩ := and_e k6b
  obtain ⟨k8a, k8b⟩ := and_e k7b
  obtain ⟨k9a, k9b⟩ := and_e k8b
  obtain ⟨k10a, k10b⟩ := and_e k9b
  obtain ⟨k11a, k11b⟩ := and_e k10b
  obtain ⟨k12a, k12b⟩ := and_e k11b
  obtain ⟨k13a, k13b⟩ := and_e k12b
  obtain ⟨k14a, k14b⟩ := and_e k13b
  obtain ⟨k15a, k15b⟩ := and_e k14b
  obtain ⟨k16a, k16b⟩ := and_e k15b
  obtain ⟨k17a, k17b⟩ := and_e k16b
  obtain ⟨k18a, k18b⟩ := and_e k17b
  obtain ⟨k19a, k19b⟩ := and_e k18b
  obtain ⟨k20a, k20b⟩ := and_e k19b
  obtain ⟨k21a, k21b⟩ := and_e k20b
  obtain ⟨k22a, k22b⟩ := and_e k21b
  obtain ⟨k23a, k23b⟩ := and_e k22b
  obtain ⟨k24a, k24b⟩ := and_e k23b
  obtain ⟨k25a, k25b⟩ := and_e k24b
  obtain ⟨k26a, k26b⟩ := and_e k25b
  obtain ⟨k27a, k27b⟩ := and_e k26b
  obtain ⟨k28a, k28b⟩ := and_e k27b
  obtain ⟨k29a, k29b⟩ := and_e k28b
  obtain ⟨k30a, k30b⟩ := and_e k29b
  obtain ⟨k31a, k31b⟩ := and_e k30b
  obtain ⟨k32a, k32b⟩ := and_e k31b
  obtain ⟨k33a, k33b⟩ := and_e k32b
  obtain ⟨k34a, k34b⟩ := and_e k33b
  obtain ⟨k35a, k35b⟩ := and_e k34b
  obtain ⟨k36a, k36b⟩ := and_e k35b
  obtain ⟨k37a, k37b⟩ := and_e k36b
  obtain ⟨k38a, k38b⟩ := and_e k37b
  obtain ⟨k39a, k39b⟩ := and_e k38b
  obtain ⟨k40a, k40b⟩ := and_e k39b
  obtain ⟨k41a, k41b⟩ := and_e k40b
  obtain ⟨k42a, k42b⟩ := and_e k41b
  obtain ⟨k43a, k43b⟩ := and_e k42b
  obtain ⟨k44a, k44b⟩ := and_e k43b
  obtain ⟨k45a, k45b⟩ := and_e k44b
  obtain ⟨k46a, k46b⟩ := and_e k45b
  obtain ⟨k47a, k47b⟩ := and_e k46b
  obtain ⟨k48a, k48b⟩ := and_e k47b
  obtain ⟨k49a, k49b⟩ := and_e k48b
  obtain ⟨k50a, k50b⟩ := and_e k49b
  obtain ⟨k51a, k51b⟩ := and_e k50b
  obtain ⟨k52a, k52b⟩ := and_e k51b
  obtain ⟨k53a, k53b⟩ := and_e k52b
  obtain ⟨k54a, k54b⟩ := and_e k53b
  obtain ⟨k55a, k55b⟩ := and_e k54b
  obtain ⟨k56a, k56b⟩ := and_e k55b
  obtain ⟨k57a, k57b⟩ := and_e k56b
  obtain ⟨k58a, k58b⟩ := and_e k57b
  obtain ⟨k59a, k59b⟩ := and_e k58b
  obtain ⟨k60a, k60b⟩ := and_e k59b
  obtain ⟨k61a, k61b⟩ := and_e k60b
  obtain ⟨k62a, k62b⟩ := and_e k61b
  obtain ⟨k63a, k63b⟩ := and_e k62b
  obtain ⟨k64a, k64b⟩ := and_e k63b
  obtain ⟨k65a, k65b⟩ := and_e k64b
  obtain ⟨k66a, k66b⟩ := and_e k65b
  obtain ⟨k67a, k67b⟩ := and_e k66b
  obtain ⟨k68a, k68b⟩ := and_e k67b
  obtain ⟨k69a, k69b⟩ := and_e k68b
  obtain ⟨k70a, k70b⟩ := and_e k69b
  obtain ⟨k71a, k71b⟩ := and_e k70b
  obtain ⟨w0, rfl⟩ : ∃ w0 : Value, args = #[w0] := by
    have hs : args.size = 1 := by simpa [Cond.value, given_1] using k1a
    obtain ⟨L⟩ := args
    match L, hs with
    | [w0], _ => exact ⟨w0, rfl⟩
  have hw := fun d (hd : d ∈ tables_1) => atoms_spec (ws := Jvm.Cond.code x code maxLocals ret :: tables_1) hat d (List.mem_cons_of_mem _ hd)
  have hfit : Fit s := fun {y c} hc i hi => by
    obtain ⟨ha, rfl⟩ := Array.getElem?_eq_some_iff.mp hc
    have q := List.all_eq_true.mp ((Array.all_eq_true_iff_forall_mem.mp hF) _ (Array.getElem_mem ha)) i (List.mem_range.mpr hi)
    simpa [Array.getElem?_eq_getElem hi] using q
  obtain ⟨i0, ei0⟩ := is_v k1b
  obtain rfl : w0 = (.int i0) := Option.some.inj ei0
  obtain ⟨o_TERM, eo_TERM⟩ := exa_v k2a
  have xo_TERM := Exa.start eo_TERM k2a
  have so_TERM := Sta.start eo_TERM (Or.inr ⟨(hw _ (List.mem_of_getElem? (i := 6) rfl)), (hw _ (List.mem_of_getElem? (i := 7) rfl))⟩)
  obtain ⟨o_OR, eo_OR⟩ := exa_v k3a
  have xo_OR := Exa.start eo_OR k3a
  have so_OR := Sta.start eo_OR (Or.inr ⟨(hw _ (List.mem_of_getElem? (i := 6) rfl)), (hw _ (List.mem_of_getElem? (i := 14) rfl))⟩)
  obtain ⟨o_AND, eo_AND⟩ := exa_v k6a
  have xo_AND := Exa.start eo_AND k6a
  have so_AND := Sta.start eo_AND (Or.inr ⟨(hw _ (List.mem_of_getElem? (i := 6) rfl)), (hw _ (List.mem_of_getElem? (i := 16) rfl))⟩)
  obtain ⟨o_NOT, eo_NOT⟩ := exa_v k8a
  have xo_NOT := Exa.start eo_NOT k8a
  have so_NOT := Sta.start eo_NOT (Or.inr ⟨(hw _ (List.mem_of_getElem? (i := 6) rfl)), (hw _ (List.mem_of_getElem? (i := 18) rfl))⟩)
  obtain ⟨r_PRIMARY, er_PRIMARY⟩ := exa_v k10a
  have xr_PRIMARY := Exa.start er_PRIMARY k10a
  have sr_PRIMARY := Sta.start er_PRIMARY (Or.inr ⟨(hw _ (List.mem_of_getElem? (i := 21) rfl)), (hw _ (List.mem_of_getElem? (i := 22) rfl))⟩)
  obtain ⟨r_RELATIONAL, er_RELATIONAL⟩ := exa_v k12a
  have xr_RELATIONAL := Exa.start er_RELATIONAL k12a
  have sr_RELATIONAL := Sta.start er_RELATIONAL (Or.inr ⟨(hw _ (List.mem_of_getElem? (i := 21) rfl)), (hw _ (List.mem_of_getElem? (i := 24) rfl))⟩)
  obtain ⟨o_SAME_TERM, eo_SAME_TERM⟩ := exa_v k15a
  have xo_SAME_TERM := Exa.start eo_SAME_TERM k15a
  have so_SAME_TERM := Sta.start eo_SAME_TERM (Or.inr ⟨(hw _ (List.mem_of_getElem? (i := 6) rfl)), (hw _ (List.mem_of_getElem? (i := 30) rfl))⟩)
  obtain ⟨o_IS_IRI, eo_IS_IRI⟩ := exa_v k17a
  have xo_IS_IRI := Exa.start eo_IS_IRI k17a
  have so_IS_IRI := Sta.start eo_IS_IRI (Or.inr ⟨(hw _ (List.mem_of_getElem? (i := 6) rfl)), (hw _ (List.mem_of_getElem? (i := 32) rfl))⟩)
  obtain ⟨o_IS_LITERAL, eo_IS_LITERAL⟩ := exa_v k19a
  have xo_IS_LITERAL := Exa.start eo_IS_LITERAL k19a
  have so_IS_LITERAL := Sta.start eo_IS_LITERAL (Or.inr ⟨(hw _ (List.mem_of_getElem? (i := 6) rfl)), (hw _ (List.mem_of_getElem? (i := 34) rfl))⟩)
  obtain ⟨o_ADD, eo_ADD⟩ := exa_v k21a
  have xo_ADD := Exa.start eo_ADD k21a
  have so_ADD := Sta.start eo_ADD (Or.inr ⟨(hw _ (List.mem_of_getElem? (i := 6) rfl)), (hw _ (List.mem_of_getElem? (i := 37) rfl))⟩)
  obtain ⟨r_ADDITIVE, er_ADDITIVE⟩ := exa_v k23a
  have xr_ADDITIVE := Exa.start er_ADDITIVE k23a
  have sr_ADDITIVE := Sta.start er_ADDITIVE (Or.inr ⟨(hw _ (List.mem_of_getElem? (i := 21) rfl)), (hw _ (List.mem_of_getElem? (i := 38) rfl))⟩)
  obtain ⟨o_SUBTRACT, eo_SUBTRACT⟩ := exa_v k26a
  have xo_SUBTRACT := Exa.start eo_SUBTRACT k26a
  have so_SUBTRACT := Sta.start eo_SUBTRACT (Or.inr ⟨(hw _ (List.mem_of_getElem? (i := 6) rfl)), (hw _ (List.mem_of_getElem? (i := 40) rfl))⟩)
  obtain ⟨o_GREATER, eo_GREATER⟩ := exa_v k30a
  have xo_GREATER := Exa.start eo_GREATER k30a
  have so_GREATER := Sta.start eo_GREATER (Or.inr ⟨(hw _ (List.mem_of_getElem? (i := 6) rfl)), (hw _ (List.mem_of_getElem? (i := 43) rfl))⟩)
  obtain ⟨o_LESS_OR_EQUAL, eo_LESS_OR_EQUAL⟩ := exa_v k33a
  have xo_LESS_OR_EQUAL := Exa.start eo_LESS_OR_EQUAL k33a
  have so_LESS_OR_EQUAL := Sta.start eo_LESS_OR_EQUAL (Or.inr ⟨(hw _ (List.mem_of_getElem? (i := 6) rfl)), (hw _ (List.mem_of_getElem? (i := 46) rfl))⟩)
  obtain ⟨o_DATATYPE, eo_DATATYPE⟩ := exa_v k36a
  have xo_DATATYPE := Exa.start eo_DATATYPE k36a
  have so_DATATYPE := Sta.start eo_DATATYPE (Or.inr ⟨(hw _ (List.mem_of_getElem? (i := 6) rfl)), (hw _ (List.mem_of_getElem? (i := 49) rfl))⟩)
  obtain ⟨o_LESS, eo_LESS⟩ := exa_v k40a
  have xo_LESS := Exa.start eo_LESS k40a
  have so_LESS := Sta.start eo_LESS (Or.inr ⟨(hw _ (List.mem_of_getElem? (i := 6) rfl)), (hw _ (List.mem_of_getElem? (i := 52) rfl))⟩)
  obtain ⟨o_STR, eo_STR⟩ := exa_v k43a
  have xo_STR := Exa.start eo_STR k43a
  have so_STR := Sta.start eo_STR (Or.inr ⟨(hw _ (List.mem_of_getElem? (i := 6) rfl)), (hw _ (List.mem_of_getElem? (i := 54) rfl))⟩)
  obtain ⟨o_MULTIPLY, eo_MULTIPLY⟩ := exa_v k47a
  have xo_MULTIPLY := Exa.start eo_MULTIPLY k47a
  have so_MULTIPLY := Sta.start eo_MULTIPLY (Or.inr ⟨(hw _ (List.mem_of_getElem? (i := 6) rfl)), (hw _ (List.mem_of_getElem? (i := 57) rfl))⟩)
  obtain ⟨r_MULTIPLICATIVE, er_MULTIPLICATIVE⟩ := exa_v k49a
  have xr_MULTIPLICATIVE := Exa.start er_MULTIPLICATIVE k49a
  have sr_MULTIPLICATIVE := Sta.start er_MULTIPLICATIVE (Or.inr ⟨(hw _ (List.mem_of_getElem? (i := 21) rfl)), (hw _ (List.mem_of_getElem? (i := 58) rfl))⟩)
  obtain ⟨o_NOT_EQUAL, eo_NOT_EQUAL⟩ := exa_v k52a
  have xo_NOT_EQUAL := Exa.start eo_NOT_EQUAL k52a
  have so_NOT_EQUAL := Sta.start eo_NOT_EQUAL (Or.inr ⟨(hw _ (List.mem_of_getElem? (i := 6) rfl)), (hw _ (List.mem_of_getElem? (i := 60) rfl))⟩)
  obtain ⟨o_EQUAL, eo_EQUAL⟩ := exa_v k55a
  have xo_EQUAL := Exa.start eo_EQUAL k55a
  have so_EQUAL := Sta.start eo_EQUAL (Or.inr ⟨(hw _ (List.mem_of_getElem? (i := 6) rfl)), (hw _ (List.mem_of_getElem? (i := 62) rfl))⟩)
  obtain ⟨o_GREATER_OR_EQUAL, eo_GREATER_OR_EQUAL⟩ := exa_v k58a
  have xo_GREATER_OR_EQUAL := Exa.start eo_GREATER_OR_EQUAL k58a
  have so_GREATER_OR_EQUAL := Sta.start eo_GREATER_OR_EQUAL (Or.inr ⟨(hw _ (List.mem_of_getElem? (i := 6) rfl)), (hw _ (List.mem_of_getElem? (i := 64) rfl))⟩)
  obtain ⟨o_DIVIDE, eo_DIVIDE⟩ := exa_v k61a
  have xo_DIVIDE := Exa.start eo_DIVIDE k61a
  have so_DIVIDE := Sta.start eo_DIVIDE (Or.inr ⟨(hw _ (List.mem_of_getElem? (i := 6) rfl)), (hw _ (List.mem_of_getElem? (i := 66) rfl))⟩)
  obtain ⟨o_LANG, eo_LANG⟩ := exa_v k64a
  have xo_LANG := Exa.start eo_LANG k64a
  have so_LANG := Sta.start eo_LANG (Or.inr ⟨(hw _ (List.mem_of_getElem? (i := 6) rfl)), (hw _ (List.mem_of_getElem? (i := 68) rfl))⟩)
  obtain ⟨r_OR, er_OR⟩ := exa_v k67a
  have xr_OR := Exa.start er_OR k67a
  have sr_OR := Sta.start er_OR (Or.inr ⟨(hw _ (List.mem_of_getElem? (i := 21) rfl)), (hw _ (List.mem_of_getElem? (i := 69) rfl))⟩)
  obtain ⟨r_AND, er_AND⟩ := exa_v k69a
  have xr_AND := Exa.start er_AND k69a
  have sr_AND := Sta.start er_AND (Or.inr ⟨(hw _ (List.mem_of_getElem? (i := 21) rfl)), (hw _ (List.mem_of_getElem? (i := 70) rfl))⟩)
  obtain ⟨r_UNARY, er_UNARY⟩ := exa_v k71a
  have xr_UNARY := Exa.start er_UNARY k71a
  have sr_UNARY := Sta.start er_UNARY (Or.inr ⟨(hw _ (List.mem_of_getElem? (i := 21) rfl)), (hw _ (List.mem_of_getElem? (i := 71) rfl))⟩)
  have do_TERM := own_fldI eo_TERM k4a
  have do_OR := own_fldI eo_OR k5a
  have do_AND := own_fldI eo_AND k7a
  have do_NOT := own_fldI eo_NOT k9a
  have po_TERM := own_fldR eo_TERM er_PRIMARY k11a
  have dr_PRIMARY := own_fldI er_PRIMARY k13a
  have dr_RELATIONAL := own_fldI er_RELATIONAL k14a
  have do_SAME_TERM := own_fldI eo_SAME_TERM k16a
  have do_IS_IRI := own_fldI eo_IS_IRI k18a
  have do_IS_LITERAL := own_fldI eo_IS_LITERAL k20a
  have do_ADD := own_fldI eo_ADD k22a
  have po_ADD := own_fldR eo_ADD er_ADDITIVE k24a
  have dr_ADDITIVE := own_fldI er_ADDITIVE k25a
  have do_SUBTRACT := own_fldI eo_SUBTRACT k27a
  have po_SUBTRACT := own_fldR eo_SUBTRACT er_ADDITIVE k28a
  have po_SAME_TERM := own_fldR eo_SAME_TERM er_PRIMARY k29a
  have do_GREATER := own_fldI eo_GREATER k31a
  have po_GREATER := own_fldR eo_GREATER er_RELATIONAL k32a
  have do_LESS_OR_EQUAL := own_fldI eo_LESS_OR_EQUAL k34a
  have po_LESS_OR_EQUAL := own_fldR eo_LESS_OR_EQUAL er_RELATIONAL k35a
  have do_DATATYPE := own_fldI eo_DATATYPE k37a
  have po_DATATYPE := own_fldR eo_DATATYPE er_PRIMARY k38a
  have po_IS_IRI := own_fldR eo_IS_IRI er_PRIMARY k39a
  have do_LESS := own_fldI eo_LESS k41a
  have po_LESS := own_fldR eo_LESS er_RELATIONAL k42a
  have do_STR := own_fldI eo_STR k44a
  have po_STR := own_fldR eo_STR er_PRIMARY k45a
  have po_IS_LITERAL := own_fldR eo_IS_LITERAL er_PRIMARY k46a
  have do_MULTIPLY := own_fldI eo_MULTIPLY k48a
  have po_MULTIPLY := own_fldR eo_MULTIPLY er_MULTIPLICATIVE k50a
  have dr_MULTIPLICATIVE := own_fldI er_MULTIPLICATIVE k51a
  have do_NOT_EQUAL := own_fldI eo_NOT_EQUAL k53a
  have po_NOT_EQUAL := own_fldR eo_NOT_EQUAL er_RELATIONAL k54a
  have do_EQUAL := own_fldI eo_EQUAL k56a
  have po_EQUAL := own_fldR eo_EQUAL er_RELATIONAL k57a
  have do_GREATER_OR_EQUAL := own_fldI eo_GREATER_OR_EQUAL k59a
  have po_GREATER_OR_EQUAL := own_fldR eo_GREATER_OR_EQUAL er_RELATIONAL k60a
  have do_DIVIDE := own_fldI eo_DIVIDE k62a
  have po_DIVIDE := own_fldR eo_DIVIDE er_MULTIPLICATIVE k63a
  have do_LANG := own_fldI eo_LANG k65a
  have po_LANG := own_fldR eo_LANG er_PRIMARY k66a
  have po_OR := own_fldR eo_OR er_OR k68a
  have po_AND := own_fldR eo_AND er_AND k70a
  have po_NOT := own_fldR eo_NOT er_UNARY k71b
  have HS : ∀ q ∈ own_names, Sta s s.heap "com/example/pincio/pincio/core/Expression$Operator" q.1 "Lcom/example/pincio/pincio/core/Expression$Operator;" (.ref (own_sel [o_TERM, o_OR, o_AND, o_NOT, o_EQUAL, o_NOT_EQUAL, o_LESS, o_GREATER, o_LESS_OR_EQUAL, o_GREATER_OR_EQUAL, o_ADD, o_SUBTRACT, o_MULTIPLY, o_DIVIDE, o_SAME_TERM, o_IS_IRI, o_IS_LITERAL, o_STR, o_LANG, o_DATATYPE] q.2)) := by
    intro q hq
    simp only [own_names, List.mem_cons, List.not_mem_nil, or_false] at hq
    rcases hq with rfl | rfl | rfl | rfl | rfl | rfl | rfl | rfl | rfl | rfl | rfl | rfl | rfl | rfl | rfl | rfl | rfl | rfl | rfl | rfl
    · exact so_TERM
    · exact so_OR
    · exact so_AND
    · exact so_NOT
    · exact so_EQUAL
    · exact so_NOT_EQUAL
    · exact so_LESS
    · exact so_GREATER
    · exact so_LESS_OR_EQUAL
    · exact so_GREATER_OR_EQUAL
    · exact so_ADD
    · exact so_SUBTRACT
    · exact so_MULTIPLY
    · exact so_DIVIDE
    · exact so_SAME_TERM
    · exact so_IS_IRI
    · exact so_IS_LITERAL
    · exact so_STR
    · exact so_LANG
    · exact so_DATATYPE
  have HE : ∀ j ∈ own_ix, Exa s s.heap (own_sel [o_TERM, o_OR, o_AND, o_NOT, o_EQUAL, o_NOT_EQUAL, o_LESS, o_GREATER, o_LESS_OR_EQUAL, o_GREATER_OR_EQUAL, o_ADD, o_SUBTRACT, o_MULTIPLY, o_DIVIDE, o_SAME_TERM, o_IS_IRI, o_IS_LITERAL, o_STR, o_LANG, o_DATATYPE] j) "com/example/pincio/pincio/core/Expression$Operator" := by
    intro j hq
    simp only [own_ix, List.mem_cons, List.not_mem_nil, or_false] at hq
    rcases hq with rfl | rfl | rfl | rfl | rfl | rfl | rfl | rfl | rfl | rfl | rfl | rfl | rfl | rfl | rfl | rfl | rfl | rfl | rfl | rfl
    · exact xo_TERM
    · exact xo_OR
    · exact xo_AND
    · exact xo_NOT
    · exact xo_EQUAL
    · exact xo_NOT_EQUAL
    · exact xo_LESS
    · exact xo_GREATER
    · exact xo_LESS_OR_EQUAL
    · exact xo_GREATER_OR_EQUAL
    · exact xo_ADD
    · exact xo_SUBTRACT
    · exact xo_MULTIPLY
    · exact xo_DIVIDE
    · exact xo_SAME_TERM
    · exact xo_IS_IRI
    · exact xo_IS_LITERAL
    · exact xo_STR
    · exact xo_LANG
    · exact xo_DATATYPE
  have HO : ∀ j ∈ own_ix, Fld s s.heap (own_sel [o_TERM, o_OR, o_AND, o_NOT, o_EQUAL, o_NOT_EQUAL, o_LESS, o_GREATER, o_LESS_OR_EQUAL, o_GREATER_OR_EQUAL, o_ADD, o_SUBTRACT, o_MULTIPLY, o_DIVIDE, o_SAME_TERM, o_IS_IRI, o_IS_LITERAL, o_STR, o_LANG, o_DATATYPE] j) "java/lang/Enum" "ordinal" "I" (.int j) := by
    intro j hq
    simp only [own_ix, List.mem_cons, List.not_mem_nil, or_false] at hq
    rcases hq with rfl | rfl | rfl | rfl | rfl | rfl | rfl | rfl | rfl | rfl | rfl | rfl | rfl | rfl | rfl | rfl | rfl | rfl | rfl | rfl
    · exact do_TERM
    · exact do_OR
    · exact do_AND
    · exact do_NOT
    · exact do_EQUAL
    · exact do_NOT_EQUAL
    · exact do_LESS
    · exact do_GREATER
    · exact do_LESS_OR_EQUAL
    · exact do_GREATER_OR_EQUAL
    · exact do_ADD
    · exact do_SUBTRACT
    · exact do_MULTIPLY
    · exact do_DIVIDE
    · exact do_SAME_TERM
    · exact do_IS_IRI
    · exact do_IS_LITERAL
    · exact do_STR
    · exact do_LANG
    · exact do_DATATYPE
  have HP : ∀ j ∈ own_ix, Fld s s.heap (own_sel [o_TERM, o_OR, o_AND, o_NOT, o_EQUAL, o_NOT_EQUAL, o_LESS, o_GREATER, o_LESS_OR_EQUAL, o_GREATER_OR_EQUAL, o_ADD, o_SUBTRACT, o_MULTIPLY, o_DIVIDE, o_SAME_TERM, o_IS_IRI, o_IS_LITERAL, o_STR, o_LANG, o_DATATYPE] j) "com/example/pincio/pincio/core/Expression$Operator" "precedence" "Lcom/example/pincio/pincio/core/Expression$Precedence;" (.ref (own_sel [r_PRIMARY, r_OR, r_AND, r_UNARY, r_RELATIONAL, r_RELATIONAL, r_RELATIONAL, r_RELATIONAL, r_RELATIONAL, r_RELATIONAL, r_ADDITIVE, r_ADDITIVE, r_MULTIPLICATIVE, r_MULTIPLICATIVE, r_PRIMARY, r_PRIMARY, r_PRIMARY, r_PRIMARY, r_PRIMARY, r_PRIMARY] j)) := by
    intro j hq
    simp only [own_ix, List.mem_cons, List.not_mem_nil, or_false] at hq
    rcases hq with rfl | rfl | rfl | rfl | rfl | rfl | rfl | rfl | rfl | rfl | rfl | rfl | rfl | rfl | rfl | rfl | rfl | rfl | rfl | rfl
    · exact po_TERM
    · exact po_OR
    · exact po_AND
    · exact po_NOT
    · exact po_EQUAL
    · exact po_NOT_EQUAL
    · exact po_LESS
    · exact po_GREATER
    · exact po_LESS_OR_EQUAL
    · exact po_GREATER_OR_EQUAL
    · exact po_ADD
    · exact po_SUBTRACT
    · exact po_MULTIPLY
    · exact po_DIVIDE
    · exact po_SAME_TERM
    · exact po_IS_IRI
    · exact po_IS_LITERAL
    · exact po_STR
    · exact po_LANG
    · exact po_DATATYPE
  have HR1 : ∀ j ∈ [(4 : Int32), 5, 6, 7, 8, 9], own_sel [r_PRIMARY, r_OR, r_AND, r_UNARY, r_RELATIONAL, r_RELATIONAL, r_RELATIONAL, r_RELATIONAL, r_RELATIONAL, r_RELATIONAL, r_ADDITIVE, r_ADDITIVE, r_MULTIPLICATIVE, r_MULTIPLICATIVE, r_PRIMARY, r_PRIMARY, r_PRIMARY, r_PRIMARY, r_PRIMARY, r_PRIMARY] j = r_RELATIONAL := by
    intro j hq
    simp only [List.mem_cons, List.not_mem_nil, or_false] at hq
    rcases hq with rfl | rfl | rfl | rfl | rfl | rfl <;> rfl
  have HR2 : ∀ j ∈ [(0 : Int32), 10, 11, 12, 13, 14, 15, 16, 17, 18, 19], ¬ own_sel [r_PRIMARY, r_OR, r_AND, r_UNARY, r_RELATIONAL, r_RELATIONAL, r_RELATIONAL, r_RELATIONAL, r_RELATIONAL, r_RELATIONAL, r_ADDITIVE, r_ADDITIVE, r_MULTIPLICATIVE, r_MULTIPLICATIVE, r_PRIMARY, r_PRIMARY, r_PRIMARY, r_PRIMARY, r_PRIMARY, r_PRIMARY] j = r_RELATIONAL := by
    intro j hq
    simp only [List.mem_cons, List.not_mem_nil, or_false] at hq
    rcases hq with rfl | rfl | rfl | rfl | rfl | rfl | rfl | rfl | rfl | rfl | rfl
    · exact Fld.ne dr_PRIMARY dr_RELATIONAL (by decide)
    · exact Fld.ne dr_ADDITIVE dr_RELATIONAL (by decide)
    · exact Fld.ne dr_ADDITIVE dr_RELATIONAL (by decide)
    · exact Fld.ne dr_MULTIPLICATIVE dr_RELATIONAL (by decide)
    · exact Fld.ne dr_MULTIPLICATIVE dr_RELATIONAL (by decide)
    · exact Fld.ne dr_PRIMARY dr_RELATIONAL (by decide)
    · exact Fld.ne dr_PRIMARY dr_RELATIONAL (by decide)
    · exact Fld.ne dr_PRIMARY dr_RELATIONAL (by decide)
    · exact Fld.ne dr_PRIMARY dr_RELATIONAL (by decide)
    · exact Fld.ne dr_PRIMARY dr_RELATIONAL (by decide)
    · exact Fld.ne dr_PRIMARY dr_RELATIONAL (by decide)
  obtain ⟨n, o, h1, h2, h3, _, L, rfl, ⟨rfl, N⟩, hq⟩ := own_law l s _ hw (own_sel [o_TERM, o_OR, o_AND, o_NOT, o_EQUAL, o_NOT_EQUAL, o_LESS, o_GREATER, o_LESS_OR_EQUAL, o_GREATER_OR_EQUAL, o_ADD, o_SUBTRACT, o_MULTIPLY, o_DIVIDE, o_SAME_TERM, o_IS_IRI, o_IS_LITERAL, o_STR, o_LANG, o_DATATYPE]) (own_sel [r_PRIMARY, r_OR, r_AND, r_UNARY, r_RELATIONAL, r_RELATIONAL, r_RELATIONAL, r_RELATIONAL, r_RELATIONAL, r_RELATIONAL, r_ADDITIVE, r_ADDITIVE, r_MULTIPLICATIVE, r_MULTIPLICATIVE, r_PRIMARY, r_PRIMARY, r_PRIMARY, r_PRIMARY, r_PRIMARY, r_PRIMARY]) r_RELATIONAL i0 s.heap s.heap.size (Old.start s) HS sr_RELATIONAL HE HO HP HR1 HR2 tables_1 p e ha hc hk s m _ below hf ((Spec.applies_iff_loose hf).mp happ).1 ⟨rfl, State.Warmed39.refl s, rfl⟩ trivial
  refine ⟨n, _, h1, h2, h3, hpost _ _ _ _ _ _ ⟨Cond.after_iff.mpr rfl, Cond.after_iff.mpr (eq_i res_at (Term.int_eval (1)) rfl), trivial⟩ ⟨hq.1, hq.2.1, (hq.2.2.sift fun y hy => Or.inr (N y hy)).mono (by decide) (by decide)⟩⟩
theorem main_1_1 : Claimed_1_1 := comes_1 fun _ _ _ _ _ _ h hF => ⟨h.1, hF⟩
theorem main_1_2 : Claimed_1_2 := comes_1 fun _ _ _ _ _ _ h hF => ⟨h.2.1, hF⟩
end Jvm.Pilot.@@N@@
namespace Jvm.Pilot.@@N@@
open Jvm Jvm.ClassFile Sem Op Lib Jvm.Free Jvm.Stand Jvm.Pilot.@@N@@.Jvm.D
/-! MADE BY PROGRAM (witnessworld.py) out of the Statement's table words and the real class files: 13 classes; the members and pool entries that the words name. The judged class is class 1, her method 1. -/
namespace start1
open Jvm.ClassFile
def u (s : String) : CpInfo := .utf8 (stringToUtf16 s)
/-- a pool by its gaps: so many unusable entries, then the entry; so many at the end -/
def gap : Nat → List CpInfo → List CpInfo
  | 0, r => r
  | n + 1, r => .unusable :: gap n r
def poolList (es : List (Nat × CpInfo)) (last : Nat) : List CpInfo := es.foldr (fun e r => gap e.1 (e.2 :: r)) (gap last [])
def pool (es : List (Nat × CpInfo)) (last : Nat) : Array CpInfo := ⟨poolList es last⟩
def fileOf (pool : Array CpInfo) (this : Nat) (attrs : Array Attribute := #[]) (ms : Array MethodInfo := #[]) (fl : Nat := 33) (sup : Nat := 0) (ifs : Array Nat := #[]) (fds : Array FieldInfo := #[]) : ClassFile where
  minorVersion := 0
  majorVersion := 65
  constantPool := pool
  accessFlags := fl
  thisClass := this
  superClass := sup
  interfaces := ifs
  fields := fds
  methods := ms
  attributes := attrs
def plain (name : String) (sup : Option ClassId) : Class where
  name := name
  kind := .ordinary
  loader := none
  accessFlags := 33
  super := sup
  interfaces := #[]
  cf := none
  fields := #[]
  methods := #[]
  instanceTypes := #[]
  staticTypes := #[]
  resolved := #[]
  callSites := []
  init := .initialized
  statics := none
  mirror := none

def pool0 : Array CpInfo := pool [(5, u "<init>"), (0, u "()V"), (1, .class_ 10), (1, u "java/lang/Object")] 113

def k0m0 : Method := { name := "<init>", desc := "()V", sig := { parameters := [], returnType := none }, accessFlags := 1, code := none }
/-- java/lang/Object -/
def k0 : Class := { plain "java/lang/Object" none with
  accessFlags := 33
  interfaces := #[]
  cf := some (fileOf pool0 8 #[] #[{ accessFlags := 1, nameIndex := 5, descriptorIndex := 6, attributes := #[] }] 33 0 #[] #[])
  fields := #[]
  methods := #[k0m0]
  instanceTypes := #[]
  staticTypes := #[]
  resolved := Array.replicate 124 none
  statics := none }

def pool1 : Array CpInfo := pool [(2, .class_ 4), (1, u "java/lang/Object"), (0, u "<init>"), (0, u "()V"), (0, .integer 2147483647), (0, .methodref 9 10), (0, .class_ 11), (0, .nameAndType 12 13), (0, u "com/example/pincio/pincio/core/OperatorIsLogicalPinLaw"), (0, u "pick"), (0, u "(I)Lcom/example/pincio/pincio/core/Expression$Operator;"), (0, .methodref 15 16), (0, .class_ 17), (0, .nameAndType 18 19), (0, u "com/example/pincio/pincio/core/Expression$Operator"), (0, u "isLogical"), (0, u "()Z"), (0, .fieldref 15 21), (0, .nameAndType 22 23), (0, u "TERM"), (0, u "Lcom/example/pincio/pincio/core/Expression$Operator;"), (0, .fieldref 15 25), (0, .nameAndType 26 23), (0, u "OR"), (0, .fieldref 15 28), (0, .nameAndType 29 23), (0, u "AND"), (0, .fieldref 15 31), (0, .nameAndType 32 23), (0, u "NOT"), (0, .fieldref 15 34), (0, .nameAndType 35 23), (0, u "EQUAL"), (0, .fieldref 15 37), (0, .nameAndType 38 23), (0, u "NOT_EQUAL"), (0, .fieldref 15 40), (0, .nameAndType 41 23), (0, u "LESS"), (0, .fieldref 15 43), (0, .nameAndType 44 23), (0, u "GREATER"), (0, .fieldref 15 46), (0, .nameAndType 47 23), (0, u "LESS_OR_EQUAL"), (0, .fieldref 15 49), (0, .nameAndType 50 23), (0, u "GREATER_OR_EQUAL"), (0, .fieldref 15 52), (0, .nameAndType 53 23), (0, u "ADD"), (0, .fieldref 15 55), (0, .nameAndType 56 23), (0, u "SUBTRACT"), (0, .fieldref 15 58), (0, .nameAndType 59 23), (0, u "MULTIPLY"), (0, .fieldref 15 61), (0, .nameAndType 62 23), (0, u "DIVIDE"), (0, .fieldref 15 64), (0, .nameAndType 65 23), (0, u "SAME_TERM"), (0, .fieldref 15 67), (0, .nameAndType 68 23), (0, u "IS_IRI"), (0, .fieldref 15 70), (0, .nameAndType 71 23), (0, u "IS_LITERAL"), (0, .fieldref 15 73), (0, .nameAndType 74 23), (0, u "STR"), (0, .fieldref 15 76), (0, .nameAndType 77 23), (0, u "LANG"), (0, .fieldref 15 79), (0, .nameAndType 80 23), (0, u "DATATYPE"), (2, u "law"), (0, u "(I)Z")] 7

def k1m0 : Method := { name := "<init>", desc := "()V", sig := { parameters := [], returnType := none }, accessFlags := 2, code := none }
def k1c1 : Code := { maxStack := 2, maxLocals := 4, code := code, exceptionTable := #[], attributes := #[] }
def k1m1 : Method := { name := "law", desc := "(I)Z", sig := { parameters := [.int], returnType := some .boolean }, accessFlags := 9, code := some k1c1 }
def k1c2 : Code := { maxStack := 2, maxLocals := 1, code := method_3_code, exceptionTable := #[], attributes := #[] }
def k1m2 : Method := { name := "pick", desc := "(I)Lcom/example/pincio/pincio/core/Expression$Operator;", sig := { parameters := [.int], returnType := some (.object "com/example/pincio/pincio/core/Expression$Operator") }, accessFlags := 10, code := some k1c2 }
/-- com/example/pincio/pincio/core/OperatorIsLogicalPinLaw -/
def k1 : Class := { plain "com/example/pincio/pincio/core/OperatorIsLogicalPinLaw" (some 0) with
  accessFlags := 49
  interfaces := #[]
  cf := some (fileOf pool1 9 #[] #[{ accessFlags := 2, nameIndex := 5, descriptorIndex := 6, attributes := #[] }, { accessFlags := 9, nameIndex := 83, descriptorIndex := 84, attributes := #[] }, { accessFlags := 10, nameIndex := 12, descriptorIndex := 13, attributes := #[] }] 49 2 #[] #[])
  fields := #[]
  methods := #[k1m0, k1m1, k1m2]
  instanceTypes := #[]
  staticTypes := #[]
  resolved := Array.replicate 92 none
  statics := none }

def pool2 : Array CpInfo := pool [(1, .class_ 2), (0, u "java/lang/constant/Constable"), (0, .class_ 4), (0, u "java/lang/Object")] 6

/-- java/lang/constant/Constable -/
def k2 : Class := { plain "java/lang/constant/Constable" (some 0) with
  accessFlags := 1537
  interfaces := #[]
  cf := some (fileOf pool2 1 #[] #[] 1537 3 #[] #[])
  fields := #[]
  methods := #[]
  instanceTypes := #[]
  staticTypes := #[]
  resolved := Array.replicate 11 none
  statics := none }

def pool3 : Array CpInfo := pool [(1, .class_ 2), (0, u "java/lang/Comparable"), (0, .class_ 4), (0, u "java/lang/Object")] 7

/-- java/lang/Comparable -/
def k3 : Class := { plain "java/lang/Comparable" (some 0) with
  accessFlags := 1537
  interfaces := #[]
  cf := some (fileOf pool3 1 #[] #[] 1537 3 #[] #[])
  fields := #[]
  methods := #[]
  instanceTypes := #[]
  staticTypes := #[]
  resolved := Array.replicate 12 none
  statics := none }

def pool4 : Array CpInfo := pool [(1, .class_ 2), (0, u "java/io/Serializable"), (0, .class_ 4), (0, u "java/lang/Object")] 2

/-- java/io/Serializable -/
def k4 : Class := { plain "java/io/Serializable" (some 0) with
  accessFlags := 1537
  interfaces := #[]
  cf := some (fileOf pool4 1 #[] #[] 1537 3 #[] #[])
  fields := #[]
  methods := #[]
  instanceTypes := #[]
  staticTypes := #[]
  resolved := Array.replicate 7 none
  statics := none }

def pool5 : Array CpInfo := pool [(2, .class_ 4), (1, u "java/lang/Enum"), (0, u "name"), (0, u "Ljava/lang/String;"), (2, u "ordinal"), (0, u "I"), (1, .class_ 14), (1, u "java/lang/Object"), (4, u "hash"), (86, .class_ 108), (1, u "java/lang/Enum$EnumDesc"), (2, .class_ 112), (0, u "java/lang/constant/Constable"), (0, .class_ 114), (0, u "java/lang/Comparable"), (0, .class_ 116), (0, u "java/io/Serializable")] 87

/-- java/lang/Enum -/
def k5 : Class := { plain "java/lang/Enum" (some 0) with
  accessFlags := 1057
  interfaces := #[2, 3, 4]
  cf := some (fileOf pool5 2 #[.nestMembers #[106]] #[] 1057 12 #[111, 113, 115] #[{ accessFlags := 18, nameIndex := 5, descriptorIndex := 6, attributes := #[] }, { accessFlags := 18, nameIndex := 9, descriptorIndex := 10, attributes := #[] }, { accessFlags := 2, nameIndex := 19, descriptorIndex := 10, attributes := #[] }])
  fields := #[{ name := "name", type := (.object "java/lang/String"), accessFlags := 18, slot := 0, constantValue := 0 }, { name := "ordinal", type := .int, accessFlags := 18, slot := 1, constantValue := 0 }, { name := "hash", type := .int, accessFlags := 2, slot := 2, constantValue := 0 }]
  methods := #[]
  instanceTypes := #[(.object "java/lang/String"), .int, .int]
  staticTypes := #[]
  resolved := Array.replicate 204 none
  statics := none }

def pool6 : Array CpInfo := pool [(1, .class_ 2), (0, u "com/example/pincio/pincio/core/Expression$Operator"), (2, u "TERM"), (0, u "Lcom/example/pincio/pincio/core/Expression$Operator;"), (0, .fieldref 1 8), (0, .nameAndType 9 6), (0, u "OR"), (0, .fieldref 1 11), (0, .nameAndType 12 6), (0, u "AND"), (0, .fieldref 1 14), (0, .nameAndType 15 6), (0, u "NOT"), (2, u "EQUAL"), (2, u "NOT_EQUAL"), (2, u "LESS"), (2, u "GREATER"), (2, u "LESS_OR_EQUAL"), (2, u "GREATER_OR_EQUAL"), (2, u "ADD"), (2, u "SUBTRACT"), (2, u "MULTIPLY"), (2, u "DIVIDE"), (0, .fieldref 1 47), (0, .nameAndType 48 6), (0, u "SAME_TERM"), (0, .fieldref 1 50), (0, .nameAndType 51 6), (0, u "IS_IRI"), (0, .fieldref 1 53), (0, .nameAndType 54 6), (0, u "IS_LITERAL"), (2, u "STR"), (2, u "LANG"), (2, u "DATATYPE"), (2, u "$VALUES"), (0, u "[Lcom/example/pincio/pincio/core/Expression$Operator;"), (6, .class_ 76), (1, u "java/lang/Enum"), (8, u "written"), (0, u "Ljava/lang/String;"), (2, u "operands"), (0, u "I"), (0, .fieldref 1 92), (0, .nameAndType 93 94), (0, u "precedence"), (0, u "Lcom/example/pincio/pincio/core/Expression$Precedence;"), (0, .fieldref 96 97), (0, .class_ 98), (0, .nameAndType 99 94), (0, u "com/example/pincio/pincio/core/Expression$Precedence"), (0, u "RELATIONAL"), (0, .methodref 1 101), (0, .nameAndType 102 103), (0, u "isTest"), (0, u "()Z"), (82, u "isLogical"), (7, .class_ 195), (0, u "com/example/pincio/pincio/core/Expression")] 3

def k6c0 : Code := { maxStack := 2, maxLocals := 1, code := prog_41_method_4_code, exceptionTable := #[], attributes := #[] }
def k6m0 : Method := { name := "isLogical", desc := "()Z", sig := { parameters := [], returnType := some .boolean }, accessFlags := 1, code := some k6c0 }
def k6c1 : Code := { maxStack := 2, maxLocals := 1, code := prog_41_method_5_code, exceptionTable := #[], attributes := #[] }
def k6m1 : Method := { name := "isTest", desc := "()Z", sig := { parameters := [], returnType := some .boolean }, accessFlags := 2, code := some k6c1 }
/-- com/example/pincio/pincio/core/Expression$Operator -/
def k6 : Class := { plain "com/example/pincio/pincio/core/Expression$Operator" (some 5) with
  accessFlags := 16433
  interfaces := #[]
  cf := some (fileOf pool6 1 #[.nestHost 194] #[{ accessFlags := 1, nameIndex := 186, descriptorIndex := 103, attributes := #[] }, { accessFlags := 2, nameIndex := 102, descriptorIndex := 103, attributes := #[] }] 16433 74 #[] #[{ accessFlags := 16409, nameIndex := 5, descriptorIndex := 6, attributes := #[] }, { accessFlags := 16409, nameIndex := 9, descriptorIndex := 6, attributes := #[] }, { accessFlags := 16409, nameIndex := 12, descriptorIndex := 6, attributes := #[] }, { accessFlags := 16409, nameIndex := 15, descriptorIndex := 6, attributes := #[] }, { accessFlags := 16409, nameIndex := 18, descriptorIndex := 6, attributes := #[] }, { accessFlags := 16409, nameIndex := 21, descriptorIndex := 6, attributes := #[] }, { accessFlags := 16409, nameIndex := 24, descriptorIndex := 6, attributes := #[] }, { accessFlags := 16409, nameIndex := 27, descriptorIndex := 6, attributes := #[] }, { accessFlags := 16409, nameIndex := 30, descriptorIndex := 6, attributes := #[] }, { accessFlags := 16409, nameIndex := 33, descriptorIndex := 6, attributes := #[] }, { accessFlags := 16409, nameIndex := 36, descriptorIndex := 6, attributes := #[] }, { accessFlags := 16409, nameIndex := 39, descriptorIndex := 6, attributes := #[] }, { accessFlags := 16409, nameIndex := 42, descriptorIndex := 6, attributes := #[] }, { accessFlags := 16409, nameIndex := 45, descriptorIndex := 6, attributes := #[] }, { accessFlags := 16409, nameIndex := 48, descriptorIndex := 6, attributes := #[] }, { accessFlags := 16409, nameIndex := 51, descriptorIndex := 6, attributes := #[] }, { accessFlags := 16409, nameIndex := 54, descriptorIndex := 6, attributes := #[] }, { accessFlags := 16409, nameIndex := 57, descriptorIndex := 6, attributes := #[] }, { accessFlags := 16409, nameIndex := 60, descriptorIndex := 6, attributes := #[] }, { accessFlags := 16409, nameIndex := 63, descriptorIndex := 6, attributes := #[] }, { accessFlags := 18, nameIndex := 85, descriptorIndex := 86, attributes := #[] }, { accessFlags := 18, nameIndex := 89, descriptorIndex := 90, attributes := #[] }, { accessFlags := 18, nameIndex := 93, descriptorIndex := 94, attributes := #[] }, { accessFlags := 4122, nameIndex := 66, descriptorIndex := 67, attributes := #[] }])
  fields := #[{ name := "TERM", type := (.object "com/example/pincio/pincio/core/Expression$Operator"), accessFlags := 16409, slot := 0, constantValue := 0 }, { name := "OR", type := (.object "com/example/pincio/pincio/core/Expression$Operator"), accessFlags := 16409, slot := 1, constantValue := 0 }, { name := "AND", type := (.object "com/example/pincio/pincio/core/Expression$Operator"), accessFlags := 16409, slot := 2, constantValue := 0 }, { name := "NOT", type := (.object "com/example/pincio/pincio/core/Expression$Operator"), accessFlags := 16409, slot := 3, constantValue := 0 }, { name := "EQUAL", type := (.object "com/example/pincio/pincio/core/Expression$Operator"), accessFlags := 16409, slot := 4, constantValue := 0 }, { name := "NOT_EQUAL", type := (.object "com/example/pincio/pincio/core/Expression$Operator"), accessFlags := 16409, slot := 5, constantValue := 0 }, { name := "LESS", type := (.object "com/example/pincio/pincio/core/Expression$Operator"), accessFlags := 16409, slot := 6, constantValue := 0 }, { name := "GREATER", type := (.object "com/example/pincio/pincio/core/Expression$Operator"), accessFlags := 16409, slot := 7, constantValue := 0 }, { name := "LESS_OR_EQUAL", type := (.object "com/example/pincio/pincio/core/Expression$Operator"), accessFlags := 16409, slot := 8, constantValue := 0 }, { name := "GREATER_OR_EQUAL", type := (.object "com/example/pincio/pincio/core/Expression$Operator"), accessFlags := 16409, slot := 9, constantValue := 0 }, { name := "ADD", type := (.object "com/example/pincio/pincio/core/Expression$Operator"), accessFlags := 16409, slot := 10, constantValue := 0 }, { name := "SUBTRACT", type := (.object "com/example/pincio/pincio/core/Expression$Operator"), accessFlags := 16409, slot := 11, constantValue := 0 }, { name := "MULTIPLY", type := (.object "com/example/pincio/pincio/core/Expression$Operator"), accessFlags := 16409, slot := 12, constantValue := 0 }, { name := "DIVIDE", type := (.object "com/example/pincio/pincio/core/Expression$Operator"), accessFlags := 16409, slot := 13, constantValue := 0 }, { name := "SAME_TERM", type := (.object "com/example/pincio/pincio/core/Expression$Operator"), accessFlags := 16409, slot := 14, constantValue := 0 }, { name := "IS_IRI", type := (.object "com/example/pincio/pincio/core/Expression$Operator"), accessFlags := 16409, slot := 15, constantValue := 0 }, { name := "IS_LITERAL", type := (.object "com/example/pincio/pincio/core/Expression$Operator"), accessFlags := 16409, slot := 16, constantValue := 0 }, { name := "STR", type := (.object "com/example/pincio/pincio/core/Expression$Operator"), accessFlags := 16409, slot := 17, constantValue := 0 }, { name := "LANG", type := (.object "com/example/pincio/pincio/core/Expression$Operator"), accessFlags := 16409, slot := 18, constantValue := 0 }, { name := "DATATYPE", type := (.object "com/example/pincio/pincio/core/Expression$Operator"), accessFlags := 16409, slot := 19, constantValue := 0 }, { name := "written", type := (.object "java/lang/String"), accessFlags := 18, slot := 3, constantValue := 0 }, { name := "operands", type := .int, accessFlags := 18, slot := 4, constantValue := 0 }, { name := "precedence", type := (.object "com/example/pincio/pincio/core/Expression$Precedence"), accessFlags := 18, slot := 5, constantValue := 0 }, { name := "$VALUES", type := (.array (.object "com/example/pincio/pincio/core/Expression$Operator")), accessFlags := 4122, slot := 20, constantValue := 0 }]
  methods := #[k6m0, k6m1]
  instanceTypes := #[(.object "java/lang/String"), .int, .int, (.object "java/lang/String"), .int, (.object "com/example/pincio/pincio/core/Expression$Precedence")]
  staticTypes := #[(.object "com/example/pincio/pincio/core/Expression$Operator"), (.object "com/example/pincio/pincio/core/Expression$Operator"), (.object "com/example/pincio/pincio/core/Expression$Operator"), (.object "com/example/pincio/pincio/core/Expression$Operator"), (.object "com/example/pincio/pincio/core/Expression$Operator"), (.object "com/example/pincio/pincio/core/Expression$Operator"), (.object "com/example/pincio/pincio/core/Expression$Operator"), (.object "com/example/pincio/pincio/core/Expression$Operator"), (.object "com/example/pincio/pincio/core/Expression$Operator"), (.object "com/example/pincio/pincio/core/Expression$Operator"), (.object "com/example/pincio/pincio/core/Expression$Operator"), (.object "com/example/pincio/pincio/core/Expression$Operator"), (.object "com/example/pincio/pincio/core/Expression$Operator"), (.object "com/example/pincio/pincio/core/Expression$Operator"), (.object "com/example/pincio/pincio/core/Expression$Operator"), (.object "com/example/pincio/pincio/core/Expression$Operator"), (.object "com/example/pincio/pincio/core/Expression$Operator"), (.object "com/example/pincio/pincio/core/Expression$Operator"), (.object "com/example/pincio/pincio/core/Expression$Operator"), (.object "com/example/pincio/pincio/core/Expression$Operator"), (.array (.object "com/example/pincio/pincio/core/Expression$Operator"))]
  resolved := Array.replicate 199 none
  statics := some 0 }

def pool7 : Array CpInfo := pool [(1, .class_ 2), (0, u "com/example/pincio/pincio/core/Expression$Precedence"), (2, u "OR"), (0, u "Lcom/example/pincio/pincio/core/Expression$Precedence;"), (2, u "AND"), (2, u "RELATIONAL"), (2, u "ADDITIVE"), (2, u "MULTIPLICATIVE"), (2, u "UNARY"), (2, u "PRIMARY"), (2, u "$VALUES"), (0, u "[Lcom/example/pincio/pincio/core/Expression$Precedence;"), (6, .class_ 37), (1, u "java/lang/Enum"), (30, .class_ 69), (0, u "com/example/pincio/pincio/core/Expression")] 2

/-- com/example/pincio/pincio/core/Expression$Precedence -/
def k7 : Class := { plain "com/example/pincio/pincio/core/Expression$Precedence" (some 5) with
  accessFlags := 16432
  interfaces := #[]
  cf := some (fileOf pool7 1 #[.nestHost 68] #[] 16432 35 #[] #[{ accessFlags := 16409, nameIndex := 5, descriptorIndex := 6, attributes := #[] }, { accessFlags := 16409, nameIndex := 9, descriptorIndex := 6, attributes := #[] }, { accessFlags := 16409, nameIndex := 12, descriptorIndex := 6, attributes := #[] }, { accessFlags := 16409, nameIndex := 15, descriptorIndex := 6, attributes := #[] }, { accessFlags := 16409, nameIndex := 18, descriptorIndex := 6, attributes := #[] }, { accessFlags := 16409, nameIndex := 21, descriptorIndex := 6, attributes := #[] }, { accessFlags := 16409, nameIndex := 24, descriptorIndex := 6, attributes := #[] }, { accessFlags := 4122, nameIndex := 27, descriptorIndex := 28, attributes := #[] }])
  fields := #[{ name := "OR", type := (.object "com/example/pincio/pincio/core/Expression$Precedence"), accessFlags := 16409, slot := 0, constantValue := 0 }, { name := "AND", type := (.object "com/example/pincio/pincio/core/Expression$Precedence"), accessFlags := 16409, slot := 1, constantValue := 0 }, { name := "RELATIONAL", type := (.object "com/example/pincio/pincio/core/Expression$Precedence"), accessFlags := 16409, slot := 2, constantValue := 0 }, { name := "ADDITIVE", type := (.object "com/example/pincio/pincio/core/Expression$Precedence"), accessFlags := 16409, slot := 3, constantValue := 0 }, { name := "MULTIPLICATIVE", type := (.object "com/example/pincio/pincio/core/Expression$Precedence"), accessFlags := 16409, slot := 4, constantValue := 0 }, { name := "UNARY", type := (.object "com/example/pincio/pincio/core/Expression$Precedence"), accessFlags := 16409, slot := 5, constantValue := 0 }, { name := "PRIMARY", type := (.object "com/example/pincio/pincio/core/Expression$Precedence"), accessFlags := 16409, slot := 6, constantValue := 0 }, { name := "$VALUES", type := (.array (.object "com/example/pincio/pincio/core/Expression$Precedence")), accessFlags := 4122, slot := 7, constantValue := 0 }]
  methods := #[]
  instanceTypes := #[(.object "java/lang/String"), .int, .int]
  staticTypes := #[(.object "com/example/pincio/pincio/core/Expression$Precedence"), (.object "com/example/pincio/pincio/core/Expression$Precedence"), (.object "com/example/pincio/pincio/core/Expression$Precedence"), (.object "com/example/pincio/pincio/core/Expression$Precedence"), (.object "com/example/pincio/pincio/core/Expression$Precedence"), (.object "com/example/pincio/pincio/core/Expression$Precedence"), (.object "com/example/pincio/pincio/core/Expression$Precedence"), (.array (.object "com/example/pincio/pincio/core/Expression$Precedence"))]
  resolved := Array.replicate 72 none
  statics := some 1 }

def pool8 : Array CpInfo := pool [(1, u "java/lang/Cloneable"), (0, .class_ 1), (0, u "java/lang/Object"), (0, .class_ 3)] 3

/-- java/lang/Cloneable -/
def k8 : Class := { plain "java/lang/Cloneable" (some 0) with
  accessFlags := 1537
  interfaces := #[]
  cf := some (fileOf pool8 2 #[] #[] 1537 4 #[] #[])
  fields := #[]
  methods := #[]
  instanceTypes := #[]
  staticTypes := #[]
  resolved := Array.replicate 8 none
  statics := none }

/-- the primitive byte -/
def k9 : Class := { plain "byte" none with kind := .primitive 'B', accessFlags := 0x411 }
/-- [B -/
def k10 : Class := { plain "[B" (some 0) with kind := .array 9 .byte, interfaces := #[8, 4], accessFlags := 1041 }

/-- the primitive int -/
def k11 : Class := { plain "int" none with kind := .primitive 'I', accessFlags := 0x411 }
/-- [I -/
def k12 : Class := { plain "[I" (some 0) with kind := .array 11 .int, interfaces := #[8, 4], accessFlags := 1041 }

def heap : Heap := #[{ cls := 6, slots := #[.ref 9, .ref 10, .ref 11, .ref 12, .ref 13, .ref 14, .ref 15, .ref 16, .ref 17, .ref 18, .ref 19, .ref 20, .ref 21, .ref 22, .ref 23, .ref 24, .ref 25, .ref 26, .ref 27, .ref 28, .null], vm := .statics 6 },
  { cls := 7, slots := #[.ref 6, .ref 7, .ref 3, .ref 4, .ref 5, .ref 8, .ref 2, .null], vm := .statics 7 },
  { cls := 7, slots := #[.null, .int 6, .int 0], vm := .none },
  { cls := 7, slots := #[.null, .int 2, .int 0], vm := .none },
  { cls := 7, slots := #[.null, .int 3, .int 0], vm := .none },
  { cls := 7, slots := #[.null, .int 4, .int 0], vm := .none },
  { cls := 7, slots := #[.null, .int 0, .int 0], vm := .none },
  { cls := 7, slots := #[.null, .int 1, .int 0], vm := .none },
  { cls := 7, slots := #[.null, .int 5, .int 0], vm := .none },
  { cls := 6, slots := #[.null, .int 0, .int 0, .null, .int 0, .ref 2], vm := .none },
  { cls := 6, slots := #[.null, .int 1, .int 0, .null, .int 0, .ref 6], vm := .none },
  { cls := 6, slots := #[.null, .int 2, .int 0, .null, .int 0, .ref 7], vm := .none },
  { cls := 6, slots := #[.null, .int 3, .int 0, .null, .int 0, .ref 8], vm := .none },
  { cls := 6, slots := #[.null, .int 4, .int 0, .null, .int 0, .ref 3], vm := .none },
  { cls := 6, slots := #[.null, .int 5, .int 0, .null, .int 0, .ref 3], vm := .none },
  { cls := 6, slots := #[.null, .int 6, .int 0, .null, .int 0, .ref 3], vm := .none },
  { cls := 6, slots := #[.null, .int 7, .int 0, .null, .int 0, .ref 3], vm := .none },
  { cls := 6, slots := #[.null, .int 8, .int 0, .null, .int 0, .ref 3], vm := .none },
  { cls := 6, slots := #[.null, .int 9, .int 0, .null, .int 0, .ref 3], vm := .none },
  { cls := 6, slots := #[.null, .int 10, .int 0, .null, .int 0, .ref 4], vm := .none },
  { cls := 6, slots := #[.null, .int 11, .int 0, .null, .int 0, .ref 4], vm := .none },
  { cls := 6, slots := #[.null, .int 12, .int 0, .null, .int 0, .ref 5], vm := .none },
  { cls := 6, slots := #[.null, .int 13, .int 0, .null, .int 0, .ref 5], vm := .none },
  { cls := 6, slots := #[.null, .int 14, .int 0, .null, .int 0, .ref 2], vm := .none },
  { cls := 6, slots := #[.null, .int 15, .int 0, .null, .int 0, .ref 2], vm := .none },
  { cls := 6, slots := #[.null, .int 16, .int 0, .null, .int 0, .ref 2], vm := .none },
  { cls := 6, slots := #[.null, .int 17, .int 0, .null, .int 0, .ref 2], vm := .none },
  { cls := 6, slots := #[.null, .int 18, .int 0, .null, .int 0, .ref 2], vm := .none },
  { cls := 6, slots := #[.null, .int 19, .int 0, .null, .int 0, .ref 2], vm := .none }]
def classes : Array Class := #[k0, k1, k2, k3, k4, k5, k6, k7, k8, k9, k10, k11, k12]
def interned : List (Array UInt16 × Addr) := []
def slotsUsed : Nat := 170
def theMethod : MethodId := ⟨1, 1⟩
def args0 : Array Value := #[.int 5]
def aboutOver (below : List Frame) : State where
  vm := { classes := classes, interned := interned.toArray }
  heap := heap
  slotsUsed := slotsUsed
  threads := #[{ frames := .invoking theMethod args0 :: below }]
def below0 : List Frame := [.native { method := ⟨0, 0⟩, args := #[] }]
def about1 : State := aboutOver below0
def p0 : Program := .bare "" "" ""
def e0 : Env := launch0.env 0 0 0
theorem w_frames : about1.frames = Frame.invoking theMethod args0 :: below0 := rfl
set_option maxRecDepth 65536 in
theorem w_args : argsFit about1.vm theMethod args0 = true := by decide +kernel
set_option maxRecDepth 65536 in
theorem w_heap : heapFits about1 = true := by decide +kernel
set_option maxRecDepth 65536 in
theorem w_runnable : about1.curStatus? = some .runnable := by decide +kernel
set_option maxRecDepth 65536 in
theorem w_alone : about1.alone = true := by decide +kernel
set_option maxRecDepth 65536 in
theorem w_named : about1.methodNamed? x = some theMethod := by decide +kernel
set_option maxRecDepth 65536 in
theorem w_hears : about1.hears theMethod below0 = true := by decide +kernel
set_option maxRecDepth 65536 in
theorem w_ripe : about1.ripe theMethod args0 below0 = true := by decide +kernel
theorem w_running : about1.status = .running := rfl
set_option maxRecDepth 65536 in
theorem w_room : about1.hasRoom e0.platform room_1 = true :=
  launch0.hasRoom_least _ room_1 (by decide +kernel) (by decide +kernel) (by decide +kernel) (by decide +kernel) (by decide +kernel) (by decide +kernel)
theorem allAtoms_all (ts : List Jvm.Cond) (a : Array Jvm.Value) (st : Jvm.State) : (allAtoms ts).before a st = ts.all (fun c => c.before a st) := by
  induction ts with
  | nil => rfl
  | cons c t ih =>
    show (Jvm.Cond.and c (allAtoms t)).before a st = _
    rw [Jvm.Cond.before_and, ih, List.all_cons]
def words1 : List Jvm.Cond := Jvm.Cond.code x code maxLocals ret :: tables_1
/-- a 'code' word, met by the world's own term for the bytes: nothing is compared byte by byte -/
theorem code_word {y : MethodName} {bytes : ByteArray} {mx : Nat} {rt : Option FieldType} {a : Array Value} {s : State} {m : MethodId} {meth : Method} {c : Code} (h1 : s.methodNamed? y = some m) (h2 : s.vm.method? m = some meth) (h3 : meth.code = some c) (h4 : c.code = bytes)
    (h5 : (c.maxLocals == mx && c.exceptionTable.isEmpty && decide (c.maxStack ≤ mostOperands) && decide (meth.sig.returnType = rt) && !meth.locks && decide (parseMethodDescriptor y.desc = some meth.sig)) = true) : (Jvm.Cond.code y bytes mx rt).before a s = true := by
  simp only [Bool.and_eq_true, beq_iff_eq, Bool.not_eq_true', decide_eq_true_eq] at h5
  obtain ⟨⟨⟨⟨⟨g1, g2⟩, g3⟩, g4⟩, g5⟩, g6⟩ := h5
  simp [Cond.before, Cond.holds, Cond.value, h1, h2, h3, h4, g1, g2, g3, g4, g5, g6]
def isCode : Jvm.Cond → Bool
  | .code _ _ _ _ => true
  | _ => false
theorem all_split {L : List Jvm.Cond} {P : Jvm.Cond → Bool} (h1 : L.all (fun c => isCode c || P c) = true) (h2 : ∀ c ∈ L.filter isCode, P c = true) : L.all P = true := by
  refine List.all_eq_true.mpr fun c hc => ?_
  have h := List.all_eq_true.mp h1 c hc
  rcases Bool.eq_false_or_eq_true (isCode c) with hi | hi
  · exact h2 c (List.mem_filter.mpr ⟨hc, hi⟩)
  · simpa [hi] using h
set_option maxRecDepth 65536 in
theorem w_c0 : (Jvm.Cond.code x code maxLocals ret).before args0 about1 = true := code_word (m := ⟨1, 1⟩) (meth := k1m1) (c := k1c1) (by decide +kernel) rfl rfl rfl (by decide +kernel)
set_option maxRecDepth 65536 in
theorem w_c1 : (Jvm.Cond.code ({ cls := "com/example/pincio/pincio/core/OperatorIsLogicalPinLaw", name := "pick", desc := "(I)Lcom/example/pincio/pincio/core/Expression$Operator;" } : Jvm.MethodName) method_3_code (1 : Nat) (Option.some (Jvm.ClassFile.FieldType.object "com/example/pincio/pincio/core/Expression$Operator"))).before args0 about1 = true := code_word (m := ⟨1, 2⟩) (meth := k1m2) (c := k1c2) (by decide +kernel) rfl rfl rfl (by decide +kernel)
set_option maxRecDepth 65536 in
theorem w_c2 : (Jvm.Cond.code ({ cls := "com/example/pincio/pincio/core/Expression$Operator", name := "isLogical", desc := "()Z" } : Jvm.MethodName) prog_41_method_4_code (1 : Nat) (Option.some Jvm.ClassFile.FieldType.boolean)).before args0 about1 = true := code_word (m := ⟨6, 0⟩) (meth := k6m0) (c := k6c0) (by decide +kernel) rfl rfl rfl (by decide +kernel)
set_option maxRecDepth 65536 in
theorem w_c3 : (Jvm.Cond.code ({ cls := "com/example/pincio/pincio/core/Expression$Operator", name := "isTest", desc := "()Z" } : Jvm.MethodName) prog_41_method_5_code (1 : Nat) (Option.some Jvm.ClassFile.FieldType.boolean)).before args0 about1 = true := code_word (m := ⟨6, 1⟩) (meth := k6m1) (c := k6c1) (by decide +kernel) rfl rfl rfl (by decide +kernel)
def codes1 : List Jvm.Cond := [Jvm.Cond.code x code maxLocals ret, Jvm.Cond.code ({ cls := "com/example/pincio/pincio/core/OperatorIsLogicalPinLaw", name := "pick", desc := "(I)Lcom/example/pincio/pincio/core/Expression$Operator;" } : Jvm.MethodName) method_3_code (1 : Nat) (Option.some (Jvm.ClassFile.FieldType.object "com/example/pincio/pincio/core/Expression$Operator")), Jvm.Cond.code ({ cls := "com/example/pincio/pincio/core/Expression$Operator", name := "isLogical", desc := "()Z" } : Jvm.MethodName) prog_41_method_4_code (1 : Nat) (Option.some Jvm.ClassFile.FieldType.boolean), Jvm.Cond.code ({ cls := "com/example/pincio/pincio/core/Expression$Operator", name := "isTest", desc := "()Z" } : Jvm.MethodName) prog_41_method_5_code (1 : Nat) (Option.some Jvm.ClassFile.FieldType.boolean)]
set_option maxRecDepth 65536 in
theorem codes_eq : words1.filter isCode = codes1 := rfl
theorem w_codes : ∀ c ∈ words1.filter isCode, c.before args0 about1 = true := by
  rw [codes_eq]
  intro c hc
  simp only [codes1, List.mem_cons, List.not_mem_nil, or_false] at hc
  rcases hc with rfl | rfl | rfl | rfl
  · exact w_c0
  · exact w_c1
  · exact w_c2
  · exact w_c3
set_option maxRecDepth 65536 in
theorem w_t1 : (words1.take 24).all (fun c => isCode c || c.before args0 about1) = true := by decide +kernel
set_option maxRecDepth 65536 in
theorem w_t2 : ((words1.drop 24).take 24).all (fun c => isCode c || c.before args0 about1) = true := by decide +kernel
set_option maxRecDepth 65536 in
theorem w_t3 : (((words1.drop 24).drop 24).take 24).all (fun c => isCode c || c.before args0 about1) = true := by decide +kernel
set_option maxRecDepth 65536 in
theorem w_t4 : (((words1.drop 24).drop 24).drop 24).all (fun c => isCode c || c.before args0 about1) = true := by decide +kernel
theorem w_tables : (allAtoms (Jvm.Cond.code x code maxLocals ret :: tables_1)).before args0 about1 = true := by
  rw [allAtoms_all]
  show words1.all (fun c => c.before args0 about1) = true
  refine all_split ?_ w_codes
  rw [← List.take_append_drop 24 words1, List.all_append, w_t1, ← List.take_append_drop 24 (words1.drop 24), List.all_append, w_t2, ← List.take_append_drop 24 ((words1.drop 24).drop 24), List.all_append, w_t3, w_t4]
  rfl
set_option maxRecDepth 65536 in
theorem w_case : (Jvm.Cond.and given_1 narrow_1).before args0 about1 = true := by decide +kernel
theorem w_applies : (headSpec (Jvm.Cond.code x code maxLocals ret :: tables_1) room_1).applies x e0.platform about1 = true :=
  (Spec.applies_iff w_frames).mpr ⟨w_running, w_runnable, w_alone, w_named, w_hears, w_ripe, w_room, w_tables⟩
theorem atStart : AtStart classFile x code maxLocals ret World_1 tables_1 room_1 Calls_1 rest_1 Pre_1 launch0 p0 e0 about1 theMethod args0 below0 :=
  ⟨lists_1, trivial, launch0.admits_env _ _ _, launch0.least_env, fairChoices_fair.cas, fairChoices_fair.clock, w_frames, w_args, w_heap, w_applies, trivial, trivial, w_case⟩
end start1
theorem witness_1 : WitnessClaimed_1 := ⟨start1.p0, start1.e0, start1.about1, start1.theMethod, start1.args0, start1.below0, start1.atStart⟩
end Jvm.Pilot.@@N@@
