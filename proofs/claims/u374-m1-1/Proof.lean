import JvmDerived
import JvmDerived.Pilot.@@N@@Statement
import JvmDerived.Pilot.@@N@@Code
set_option linter.unusedVariables false
set_option linter.unusedSimpArgs false
namespace Jvm.Pilot.@@N@@
open Jvm Jvm.ClassFile Sem Op Lib Jvm.Free Jvm.Stand Jvm.LawKit Jvm.RoadKit Bundle Jvm.Pilot.@@N@@.Jvm.D
section OwnKit
variable {p : Program} {l : Launch} {e : Env} {R : Room} {s : State} {m : MethodId} {args : Array Value} {below : List Frame} {meth : Method} {c : Code} {T : State} {locs : List Loc} {cells slots : Nat} {Z : State} {a0 : Array Value} {h : Heap} {Φ : Outcome → State → Prop}
def own_ushr (x y : Int32) : Int32 := (x.toUInt32 >>> (y &&& 31).toUInt32).toInt32
def own_ushrL (x : Int64) (y : Int32) : Int64 := (x.toUInt64 >>> (y &&& 0x3f).toInt64.toUInt64).toInt64
def own_Ends (p : Program) (e : Env) (below : List Frame) (Φ : Outcome → State → Prop) (t : State) : Prop := ∃ s₂ o, Steps p.tables e below t s₂ ∧ s₂.status = .running ∧ Ended s₂ below o ∧ Φ o s₂
theorem own_via {t t' : State} (k : ∀ u, Steps p.tables e below t' u → Steps p.tables e below t u) (h : own_Ends p e below Φ t') : own_Ends p e below Φ t := by
  obtain ⟨s₂, o, h1, h2⟩ := h; exact ⟨s₂, o, k _ h1, h2⟩
theorem own_thru {t t' : State} (k : Steps p.tables e below t t') (h : own_Ends p e below Φ t') : own_Ends p e below Φ t := own_via (fun _ q => k.trans q) h
def own_Post (s : State) (Q : Option Value → Heap → List Loc → Prop) (kc ks : Nat) (o : Outcome) (U : State) : Prop := ∃ v L, o = .returned v ∧ Q v U.heap L ∧ FrameEnd s o U L kc ks
def own_Met (l : Launch) (y : MethodName) (bytes : ByteArray) (maxL : Nat) (ret : Option FieldType) (rm : Room) (Z : State) (as' : Array Value) (h0 : Heap) (Q : Option Value → Heap → List Loc → Prop) : Prop :=
  ∀ ws : List Jvm.Cond, MetFree l y (head1 (Jvm.Cond.code y bytes maxL ret :: ws) rm) (fun a U => a = as' ∧ Z.Warmed39 U.vm ∧ U.heap = h0) (fun _ _ _ _ _ => True) (fun _ U o U' => ∃ v L, o = .returned v ∧ Q v U'.heap L ∧ FrameEnd U o U' L rm.cells rm.slots)
theorem own_met {y : MethodName} {bytes : ByteArray} {maxL : Nat} {ret : Option FieldType} {rm : Room} {as' : Array Value} {h0 : Heap} {Q : Option Value → Heap → List Loc → Prop} (hp : plainFor y = true)
    (body : ∀ (p : Program) (e : Env) (s : State) (m : MethodId) (below : List Frame) (meth : Method) (c : Code) (T : State), p.tables.exec = Jvm.exec → c.code = bytes → c.maxLocals = maxL → Z.Warmed39 s.vm → s.vm.findClass y.cls = some m.cls → meth.name = y.name → meth.sig.returnType = ret → meth.locks = false →
      Stand p l e rm s m as' below meth c T [] 0 0 → T.heap = h0 → s.heap = h0 → own_Ends p e below (own_Post s Q rm.cells rm.slots) (T.setTop (entryFrame m as' maxL))) : own_Met l y bytes maxL ret rm Z as' h0 Q := by
  intro ws
  refine MetFree.of_bodySF hp hisR ?_
  intro p e s m args below meth c s₁ Bd hml0 hP hK
  obtain ⟨rfl, hZ, hh⟩ := hP
  exact body p e s m below meth c s₁ Bd.exec Bd.bytes hml0 hZ (findClass_of_methodNamed Bd.named) (name_of_methodNamed Bd.named Bd.method).1 Bd.returns (BodyLoose.notSynchronized Bd) (Stand.of_body Bd) (by rw [← hh, Bd.state]; rfl) hh
theorem own_oz {n0 : Nat} (O : Old Z n0 h) : n0 ≤ h.size := O.1 ▸ O.2.1
theorem own_entry {g g' : JFrame} (q : g = g') (h : own_Ends p e below Φ (T.setTop g')) : own_Ends p e below Φ (T.setTop g) := q ▸ h
theorem own_iloadN (X : Stand p l e R s m args below meth c T locs cells slots) (hx : p.tables.exec = Jvm.exec) {pc pc' : Nat} {Ls : Array Slot} {rest : List Value} {k : Fin 4} {v : Int32} (hd : decode c.code pc = .ok (.iload_n k, 1)) (hl : Ls[k.val]? = some (.val (.int v))) (hp : pc + 1 = pc') (h : own_Ends p e below Φ (T.setTop (mkF m pc' Ls (.int v :: rest)))) : own_Ends p e below Φ (T.setTop (mkF m pc Ls (rest))) := by
  subst hp; exact own_via (fun _ k => XS.iloadN X.here hx (g := mkF m pc Ls (rest)) rfl hd hl k) h
theorem own_lloadN (X : Stand p l e R s m args below meth c T locs cells slots) (hx : p.tables.exec = Jvm.exec) {pc pc' : Nat} {Ls : Array Slot} {rest : List Value} {k : Fin 4} {v : Int64} (hd : decode c.code pc = .ok (.lload_n k, 1)) (hl : Ls[k.val]? = some (.val (.long v))) (hp : pc + 1 = pc') (h : own_Ends p e below Φ (T.setTop (mkF m pc' Ls (.long v :: rest)))) : own_Ends p e below Φ (T.setTop (mkF m pc Ls (rest))) := by
  subst hp; exact own_via (fun _ k => XS.lloadN X.here hx (g := mkF m pc Ls (rest)) rfl hd hl k) h
theorem own_aloadN (X : Stand p l e R s m args below meth c T locs cells slots) (hx : p.tables.exec = Jvm.exec) {pc pc' : Nat} {Ls : Array Slot} {rest : List Value} {k : Fin 4} {v : Value} (hd : decode c.code pc = .ok (.aload_n k, 1)) (hl : Ls[k.val]? = some (.val v)) (hv : v.isRef = true) (hp : pc + 1 = pc') (h : own_Ends p e below Φ (T.setTop (mkF m pc' Ls (v :: rest)))) : own_Ends p e below Φ (T.setTop (mkF m pc Ls (rest))) := by
  subst hp; exact own_via (fun _ k => XS.aloadN X.here hx (g := mkF m pc Ls (rest)) rfl hd hl hv k) h
theorem own_istoreN (X : Stand p l e R s m args below meth c T locs cells slots) (hx : p.tables.exec = Jvm.exec) {pc pc' : Nat} {Ls : Array Slot} {rest : List Value} {k : Fin 4} {v : Int32} (Ls' : Array Slot) (hd : decode c.code pc = .ok (.istore_n k, 1)) (hl : storeLocals Ls k.val (.int v) = some Ls') (hp : pc + 1 = pc') (h : own_Ends p e below Φ (T.setTop (mkF m pc' Ls' (rest)))) : own_Ends p e below Φ (T.setTop (mkF m pc Ls (.int v :: rest))) := by
  subst hp; exact own_via (fun _ k => XS.istoreN X.here hx (g := mkF m pc Ls (.int v :: rest)) rfl hd rfl hl k) h
theorem own_lstoreN (X : Stand p l e R s m args below meth c T locs cells slots) (hx : p.tables.exec = Jvm.exec) {pc pc' : Nat} {Ls : Array Slot} {rest : List Value} {k : Fin 4} {v : Int64} (Ls' : Array Slot) (hd : decode c.code pc = .ok (.lstore_n k, 1)) (hl : storeLocals Ls k.val (.long v) = some Ls') (hp : pc + 1 = pc') (h : own_Ends p e below Φ (T.setTop (mkF m pc' Ls' (rest)))) : own_Ends p e below Φ (T.setTop (mkF m pc Ls (.long v :: rest))) := by
  subst hp; exact own_via (fun _ k => XS.lstoreN X.here hx (g := mkF m pc Ls (.long v :: rest)) rfl hd rfl hl k) h
theorem own_astoreN (X : Stand p l e R s m args below meth c T locs cells slots) (hx : p.tables.exec = Jvm.exec) {pc pc' : Nat} {Ls : Array Slot} {rest : List Value} {k : Fin 4} {v : Value} (Ls' : Array Slot) (hd : decode c.code pc = .ok (.astore_n k, 1)) (hv : v.isRef = true) (hl : storeLocals Ls k.val v = some Ls') (hp : pc + 1 = pc') (h : own_Ends p e below Φ (T.setTop (mkF m pc' Ls' (rest)))) : own_Ends p e below Φ (T.setTop (mkF m pc Ls (v :: rest))) := by
  subst hp; exact own_via (fun _ k => XS.astoreN X.here hx (g := mkF m pc Ls (v :: rest)) rfl hd rfl hv hl k) h
theorem own_iload (X : Stand p l e R s m args below meth c T locs cells slots) (hx : p.tables.exec = Jvm.exec) {pc pc' : Nat} {Ls : Array Slot} {rest : List Value} {k : Nat} {v : Int32} (hd : decode c.code pc = .ok (.iload k, 2)) (hl : Ls[k]? = some (.val (.int v))) (hp : pc + 2 = pc') (h : own_Ends p e below Φ (T.setTop (mkF m pc' Ls (.int v :: rest)))) : own_Ends p e below Φ (T.setTop (mkF m pc Ls (rest))) := by
  subst hp; exact own_via (fun _ k => XS.iload X.here hx (g := mkF m pc Ls (rest)) rfl hd hl k) h
theorem own_lload (X : Stand p l e R s m args below meth c T locs cells slots) (hx : p.tables.exec = Jvm.exec) {pc pc' : Nat} {Ls : Array Slot} {rest : List Value} {k : Nat} {v : Int64} (hd : decode c.code pc = .ok (.lload k, 2)) (hl : Ls[k]? = some (.val (.long v))) (hp : pc + 2 = pc') (h : own_Ends p e below Φ (T.setTop (mkF m pc' Ls (.long v :: rest)))) : own_Ends p e below Φ (T.setTop (mkF m pc Ls (rest))) := by
  subst hp; exact own_via (fun _ k => XS.lload X.here hx (g := mkF m pc Ls (rest)) rfl hd hl k) h
theorem own_aload (X : Stand p l e R s m args below meth c T locs cells slots) (hx : p.tables.exec = Jvm.exec) {pc pc' : Nat} {Ls : Array Slot} {rest : List Value} {k : Nat} {v : Value} (hd : decode c.code pc = .ok (.aload k, 2)) (hl : Ls[k]? = some (.val v)) (hv : v.isRef = true) (hp : pc + 2 = pc') (h : own_Ends p e below Φ (T.setTop (mkF m pc' Ls (v :: rest)))) : own_Ends p e below Φ (T.setTop (mkF m pc Ls (rest))) := by
  subst hp; exact own_via (fun _ k => XS.aload X.here hx (g := mkF m pc Ls (rest)) rfl hd hl hv k) h
theorem own_istore (X : Stand p l e R s m args below meth c T locs cells slots) (hx : p.tables.exec = Jvm.exec) {pc pc' : Nat} {Ls : Array Slot} {rest : List Value} {k : Nat} {v : Int32} (Ls' : Array Slot) (hd : decode c.code pc = .ok (.istore k, 2)) (hl : storeLocals Ls k (.int v) = some Ls') (hp : pc + 2 = pc') (h : own_Ends p e below Φ (T.setTop (mkF m pc' Ls' (rest)))) : own_Ends p e below Φ (T.setTop (mkF m pc Ls (.int v :: rest))) := by
  subst hp; exact own_via (fun _ k => XS.istore X.here hx (g := mkF m pc Ls (.int v :: rest)) rfl hd rfl hl k) h
theorem own_lstore (X : Stand p l e R s m args below meth c T locs cells slots) (hx : p.tables.exec = Jvm.exec) {pc pc' : Nat} {Ls : Array Slot} {rest : List Value} {k : Nat} {v : Int64} (Ls' : Array Slot) (hd : decode c.code pc = .ok (.lstore k, 2)) (hl : storeLocals Ls k (.long v) = some Ls') (hp : pc + 2 = pc') (h : own_Ends p e below Φ (T.setTop (mkF m pc' Ls' (rest)))) : own_Ends p e below Φ (T.setTop (mkF m pc Ls (.long v :: rest))) := by
  subst hp; exact own_via (fun _ k => XS.lstore X.here hx (g := mkF m pc Ls (.long v :: rest)) rfl hd rfl hl k) h
theorem own_astore (X : Stand p l e R s m args below meth c T locs cells slots) (hx : p.tables.exec = Jvm.exec) {pc pc' : Nat} {Ls : Array Slot} {rest : List Value} {k : Nat} {v : Value} (Ls' : Array Slot) (hd : decode c.code pc = .ok (.astore k, 2)) (hv : v.isRef = true) (hl : storeLocals Ls k v = some Ls') (hp : pc + 2 = pc') (h : own_Ends p e below Φ (T.setTop (mkF m pc' Ls' (rest)))) : own_Ends p e below Φ (T.setTop (mkF m pc Ls (v :: rest))) := by
  subst hp; exact own_via (fun _ k => XS.astore X.here hx (g := mkF m pc Ls (v :: rest)) rfl hd rfl hv hl k) h
theorem own_iconst (X : Stand p l e R s m args below meth c T locs cells slots) (hx : p.tables.exec = Jvm.exec) {pc pc' : Nat} {Ls : Array Slot} {rest : List Value} {i : Int} (v : Int32) (hd : decode c.code pc = .ok (.iconst i, 1)) (hv : Int32.ofInt i = v) (hp : pc + 1 = pc') (h : own_Ends p e below Φ (T.setTop (mkF m pc' Ls (.int v :: rest)))) : own_Ends p e below Φ (T.setTop (mkF m pc Ls rest)) := by
  subst hp hv; exact own_via (fun _ k => XS.iconst X.here hx (g := mkF m pc Ls rest) rfl hd k) h
theorem own_bipush (X : Stand p l e R s m args below meth c T locs cells slots) (hx : p.tables.exec = Jvm.exec) {pc pc' : Nat} {Ls : Array Slot} {rest : List Value} {i : Int} (v : Int32) (hd : decode c.code pc = .ok (.bipush i, 2)) (hv : (Int8.ofInt i).toInt32 = v) (hp : pc + 2 = pc') (h : own_Ends p e below Φ (T.setTop (mkF m pc' Ls (.int v :: rest)))) : own_Ends p e below Φ (T.setTop (mkF m pc Ls rest)) := by
  subst hp hv; exact own_via (fun _ k => XS.bipush X.here hx (g := mkF m pc Ls rest) rfl hd k) h
theorem own_sipush (X : Stand p l e R s m args below meth c T locs cells slots) (hx : p.tables.exec = Jvm.exec) {pc pc' : Nat} {Ls : Array Slot} {rest : List Value} {i : Int} (v : Int32) (hd : decode c.code pc = .ok (.sipush i, 3)) (hv : (Int16.ofInt i).toInt32 = v) (hp : pc + 3 = pc') (h : own_Ends p e below Φ (T.setTop (mkF m pc' Ls (.int v :: rest)))) : own_Ends p e below Φ (T.setTop (mkF m pc Ls rest)) := by
  subst hp hv; exact own_via (fun _ k => XS.sipush X.here hx (g := mkF m pc Ls rest) rfl hd k) h
theorem own_lconst (X : Stand p l e R s m args below meth c T locs cells slots) (hx : p.tables.exec = Jvm.exec) {pc pc' : Nat} {Ls : Array Slot} {rest : List Value} {i : Fin 2} (v : Int64) (hd : decode c.code pc = .ok (.lconst i, 1)) (hv : Int64.ofNat i = v) (hp : pc + 1 = pc') (h : own_Ends p e below Φ (T.setTop (mkF m pc' Ls (.long v :: rest)))) : own_Ends p e below Φ (T.setTop (mkF m pc Ls rest)) := by
  subst hp hv; exact own_via (fun _ k => XS.lconst X.here hx (g := mkF m pc Ls rest) rfl hd k) h
theorem own_aconst_null (X : Stand p l e R s m args below meth c T locs cells slots) (hx : p.tables.exec = Jvm.exec) {pc pc' : Nat} {Ls : Array Slot} {rest : List Value}  (hd : decode c.code pc = .ok (.aconst_null, 1))  (hp : pc + 1 = pc') (h : own_Ends p e below Φ (T.setTop (mkF m pc' Ls (.null :: rest)))) : own_Ends p e below Φ (T.setTop (mkF m pc Ls (rest))) := by
  subst hp; exact own_via (fun _ k => XS.aconstNull X.here hx (g := mkF m pc Ls (rest)) rfl hd  k) h
theorem own_iadd (X : Stand p l e R s m args below meth c T locs cells slots) (hx : p.tables.exec = Jvm.exec) {pc pc' : Nat} {Ls : Array Slot} {rest : List Value} {x y : Int32} (hd : decode c.code pc = .ok (.iadd, 1))  (hp : pc + 1 = pc') (h : own_Ends p e below Φ (T.setTop (mkF m pc' Ls (.int (x + y) :: rest)))) : own_Ends p e below Φ (T.setTop (mkF m pc Ls (.int y :: .int x :: rest))) := by
  subst hp; exact own_via (fun _ k => XS.iadd X.here hx (g := mkF m pc Ls (.int y :: .int x :: rest)) rfl hd rfl k) h
theorem own_isub (X : Stand p l e R s m args below meth c T locs cells slots) (hx : p.tables.exec = Jvm.exec) {pc pc' : Nat} {Ls : Array Slot} {rest : List Value} {x y : Int32} (hd : decode c.code pc = .ok (.isub, 1))  (hp : pc + 1 = pc') (h : own_Ends p e below Φ (T.setTop (mkF m pc' Ls (.int (x - y) :: rest)))) : own_Ends p e below Φ (T.setTop (mkF m pc Ls (.int y :: .int x :: rest))) := by
  subst hp; exact own_via (fun _ k => XS.isub X.here hx (g := mkF m pc Ls (.int y :: .int x :: rest)) rfl hd rfl k) h
theorem own_imul (X : Stand p l e R s m args below meth c T locs cells slots) (hx : p.tables.exec = Jvm.exec) {pc pc' : Nat} {Ls : Array Slot} {rest : List Value} {x y : Int32} (hd : decode c.code pc = .ok (.imul, 1))  (hp : pc + 1 = pc') (h : own_Ends p e below Φ (T.setTop (mkF m pc' Ls (.int (x * y) :: rest)))) : own_Ends p e below Φ (T.setTop (mkF m pc Ls (.int y :: .int x :: rest))) := by
  subst hp; exact own_via (fun _ k => XS.imul X.here hx (g := mkF m pc Ls (.int y :: .int x :: rest)) rfl hd rfl k) h
theorem own_iand (X : Stand p l e R s m args below meth c T locs cells slots) (hx : p.tables.exec = Jvm.exec) {pc pc' : Nat} {Ls : Array Slot} {rest : List Value} {x y : Int32} (hd : decode c.code pc = .ok (.iand, 1))  (hp : pc + 1 = pc') (h : own_Ends p e below Φ (T.setTop (mkF m pc' Ls (.int (x &&& y) :: rest)))) : own_Ends p e below Φ (T.setTop (mkF m pc Ls (.int y :: .int x :: rest))) := by
  subst hp; exact own_via (fun _ k => XS.iand X.here hx (g := mkF m pc Ls (.int y :: .int x :: rest)) rfl hd rfl k) h
theorem own_ior (X : Stand p l e R s m args below meth c T locs cells slots) (hx : p.tables.exec = Jvm.exec) {pc pc' : Nat} {Ls : Array Slot} {rest : List Value} {x y : Int32} (hd : decode c.code pc = .ok (.ior, 1))  (hp : pc + 1 = pc') (h : own_Ends p e below Φ (T.setTop (mkF m pc' Ls (.int (x ||| y) :: rest)))) : own_Ends p e below Φ (T.setTop (mkF m pc Ls (.int y :: .int x :: rest))) := by
  subst hp; exact own_via (fun _ k => XS.ior X.here hx (g := mkF m pc Ls (.int y :: .int x :: rest)) rfl hd rfl k) h
theorem own_ixor (X : Stand p l e R s m args below meth c T locs cells slots) (hx : p.tables.exec = Jvm.exec) {pc pc' : Nat} {Ls : Array Slot} {rest : List Value} {x y : Int32} (hd : decode c.code pc = .ok (.ixor, 1))  (hp : pc + 1 = pc') (h : own_Ends p e below Φ (T.setTop (mkF m pc' Ls (.int (x ^^^ y) :: rest)))) : own_Ends p e below Φ (T.setTop (mkF m pc Ls (.int y :: .int x :: rest))) := by
  subst hp; exact own_via (fun _ k => XS.ixor X.here hx (g := mkF m pc Ls (.int y :: .int x :: rest)) rfl hd rfl k) h
theorem own_ishl (X : Stand p l e R s m args below meth c T locs cells slots) (hx : p.tables.exec = Jvm.exec) {pc pc' : Nat} {Ls : Array Slot} {rest : List Value} {x y : Int32} (hd : decode c.code pc = .ok (.ishl, 1))  (hp : pc + 1 = pc') (h : own_Ends p e below Φ (T.setTop (mkF m pc' Ls (.int (x <<< (y &&& 31)) :: rest)))) : own_Ends p e below Φ (T.setTop (mkF m pc Ls (.int y :: .int x :: rest))) := by
  subst hp; exact own_via (fun _ k => XS.ishl X.here hx (g := mkF m pc Ls (.int y :: .int x :: rest)) rfl hd rfl k) h
theorem own_ishr (X : Stand p l e R s m args below meth c T locs cells slots) (hx : p.tables.exec = Jvm.exec) {pc pc' : Nat} {Ls : Array Slot} {rest : List Value} {x y : Int32} (hd : decode c.code pc = .ok (.ishr, 1))  (hp : pc + 1 = pc') (h : own_Ends p e below Φ (T.setTop (mkF m pc' Ls (.int (x >>> (y &&& 31)) :: rest)))) : own_Ends p e below Φ (T.setTop (mkF m pc Ls (.int y :: .int x :: rest))) := by
  subst hp; exact own_via (fun _ k => XS.ishr X.here hx (g := mkF m pc Ls (.int y :: .int x :: rest)) rfl hd rfl k) h
theorem own_iushr (X : Stand p l e R s m args below meth c T locs cells slots) (hx : p.tables.exec = Jvm.exec) {pc pc' : Nat} {Ls : Array Slot} {rest : List Value} {x y : Int32} (hd : decode c.code pc = .ok (.iushr, 1))  (hp : pc + 1 = pc') (h : own_Ends p e below Φ (T.setTop (mkF m pc' Ls (.int (own_ushr x y) :: rest)))) : own_Ends p e below Φ (T.setTop (mkF m pc Ls (.int y :: .int x :: rest))) := by
  subst hp; exact own_via (fun _ k => XS.iushr X.here hx (g := mkF m pc Ls (.int y :: .int x :: rest)) rfl hd rfl k) h
theorem own_ladd (X : Stand p l e R s m args below meth c T locs cells slots) (hx : p.tables.exec = Jvm.exec) {pc pc' : Nat} {Ls : Array Slot} {rest : List Value} {x y : Int64} (hd : decode c.code pc = .ok (.ladd, 1))  (hp : pc + 1 = pc') (h : own_Ends p e below Φ (T.setTop (mkF m pc' Ls (.long (x + y) :: rest)))) : own_Ends p e below Φ (T.setTop (mkF m pc Ls (.long y :: .long x :: rest))) := by
  subst hp; exact own_via (fun _ k => XS.ladd X.here hx (g := mkF m pc Ls (.long y :: .long x :: rest)) rfl hd rfl k) h
theorem own_lsub (X : Stand p l e R s m args below meth c T locs cells slots) (hx : p.tables.exec = Jvm.exec) {pc pc' : Nat} {Ls : Array Slot} {rest : List Value} {x y : Int64} (hd : decode c.code pc = .ok (.lsub, 1))  (hp : pc + 1 = pc') (h : own_Ends p e below Φ (T.setTop (mkF m pc' Ls (.long (x - y) :: rest)))) : own_Ends p e below Φ (T.setTop (mkF m pc Ls (.long y :: .long x :: rest))) := by
  subst hp; exact own_via (fun _ k => XS.lsub X.here hx (g := mkF m pc Ls (.long y :: .long x :: rest)) rfl hd rfl k) h
theorem own_lmul (X : Stand p l e R s m args below meth c T locs cells slots) (hx : p.tables.exec = Jvm.exec) {pc pc' : Nat} {Ls : Array Slot} {rest : List Value} {x y : Int64} (hd : decode c.code pc = .ok (.lmul, 1))  (hp : pc + 1 = pc') (h : own_Ends p e below Φ (T.setTop (mkF m pc' Ls (.long (x * y) :: rest)))) : own_Ends p e below Φ (T.setTop (mkF m pc Ls (.long y :: .long x :: rest))) := by
  subst hp; exact own_via (fun _ k => XS.lmul X.here hx (g := mkF m pc Ls (.long y :: .long x :: rest)) rfl hd rfl k) h
theorem own_land (X : Stand p l e R s m args below meth c T locs cells slots) (hx : p.tables.exec = Jvm.exec) {pc pc' : Nat} {Ls : Array Slot} {rest : List Value} {x y : Int64} (hd : decode c.code pc = .ok (.land, 1))  (hp : pc + 1 = pc') (h : own_Ends p e below Φ (T.setTop (mkF m pc' Ls (.long (x &&& y) :: rest)))) : own_Ends p e below Φ (T.setTop (mkF m pc Ls (.long y :: .long x :: rest))) := by
  subst hp; exact own_via (fun _ k => XS.land X.here hx (g := mkF m pc Ls (.long y :: .long x :: rest)) rfl hd rfl k) h
theorem own_lor (X : Stand p l e R s m args below meth c T locs cells slots) (hx : p.tables.exec = Jvm.exec) {pc pc' : Nat} {Ls : Array Slot} {rest : List Value} {x y : Int64} (hd : decode c.code pc = .ok (.lor, 1))  (hp : pc + 1 = pc') (h : own_Ends p e below Φ (T.setTop (mkF m pc' Ls (.long (x ||| y) :: rest)))) : own_Ends p e below Φ (T.setTop (mkF m pc Ls (.long y :: .long x :: rest))) := by
  subst hp; exact own_via (fun _ k => XS.lor X.here hx (g := mkF m pc Ls (.long y :: .long x :: rest)) rfl hd rfl k) h
theorem own_lxor (X : Stand p l e R s m args below meth c T locs cells slots) (hx : p.tables.exec = Jvm.exec) {pc pc' : Nat} {Ls : Array Slot} {rest : List Value} {x y : Int64} (hd : decode c.code pc = .ok (.lxor, 1))  (hp : pc + 1 = pc') (h : own_Ends p e below Φ (T.setTop (mkF m pc' Ls (.long (x ^^^ y) :: rest)))) : own_Ends p e below Φ (T.setTop (mkF m pc Ls (.long y :: .long x :: rest))) := by
  subst hp; exact own_via (fun _ k => XS.lxor X.here hx (g := mkF m pc Ls (.long y :: .long x :: rest)) rfl hd rfl k) h
theorem own_lshl (X : Stand p l e R s m args below meth c T locs cells slots) (hx : p.tables.exec = Jvm.exec) {pc pc' : Nat} {Ls : Array Slot} {rest : List Value} {x : Int64} {y : Int32} (hd : decode c.code pc = .ok (.lshl, 1))  (hp : pc + 1 = pc') (h : own_Ends p e below Φ (T.setTop (mkF m pc' Ls (.long (x <<< (y &&& 0x3f).toInt64) :: rest)))) : own_Ends p e below Φ (T.setTop (mkF m pc Ls (.int y :: .long x :: rest))) := by
  subst hp; exact own_via (fun _ k => XS.lshl X.here hx (g := mkF m pc Ls (.int y :: .long x :: rest)) rfl hd rfl k) h
theorem own_lshr (X : Stand p l e R s m args below meth c T locs cells slots) (hx : p.tables.exec = Jvm.exec) {pc pc' : Nat} {Ls : Array Slot} {rest : List Value} {x : Int64} {y : Int32} (hd : decode c.code pc = .ok (.lshr, 1))  (hp : pc + 1 = pc') (h : own_Ends p e below Φ (T.setTop (mkF m pc' Ls (.long (x >>> (y &&& 0x3f).toInt64) :: rest)))) : own_Ends p e below Φ (T.setTop (mkF m pc Ls (.int y :: .long x :: rest))) := by
  subst hp; exact own_via (fun _ k => XS.lshr X.here hx (g := mkF m pc Ls (.int y :: .long x :: rest)) rfl hd rfl k) h
theorem own_lushr (X : Stand p l e R s m args below meth c T locs cells slots) (hx : p.tables.exec = Jvm.exec) {pc pc' : Nat} {Ls : Array Slot} {rest : List Value} {x : Int64} {y : Int32} (hd : decode c.code pc = .ok (.lushr, 1))  (hp : pc + 1 = pc') (h : own_Ends p e below Φ (T.setTop (mkF m pc' Ls (.long (own_ushrL x y) :: rest)))) : own_Ends p e below Φ (T.setTop (mkF m pc Ls (.int y :: .long x :: rest))) := by
  subst hp; exact own_via (fun _ k => XS.lushr X.here hx (g := mkF m pc Ls (.int y :: .long x :: rest)) rfl hd rfl k) h
theorem own_idiv (X : Stand p l e R s m args below meth c T locs cells slots) (hx : p.tables.exec = Jvm.exec) {pc pc' : Nat} {Ls : Array Slot} {rest : List Value} {x y : Int32} (hd : decode c.code pc = .ok (.idiv, 1)) (hy : y ≠ 0) (hp : pc + 1 = pc') (h : own_Ends p e below Φ (T.setTop (mkF m pc' Ls (.int (x / y) :: rest)))) : own_Ends p e below Φ (T.setTop (mkF m pc Ls (.int y :: .int x :: rest))) := by
  subst hp; exact own_via (fun _ k => XS.idiv X.here hx (g := mkF m pc Ls (.int y :: .int x :: rest)) rfl hd rfl hy k) h
theorem own_irem (X : Stand p l e R s m args below meth c T locs cells slots) (hx : p.tables.exec = Jvm.exec) {pc pc' : Nat} {Ls : Array Slot} {rest : List Value} {x y : Int32} (hd : decode c.code pc = .ok (.irem, 1)) (hy : y ≠ 0) (hp : pc + 1 = pc') (h : own_Ends p e below Φ (T.setTop (mkF m pc' Ls (.int (x % y) :: rest)))) : own_Ends p e below Φ (T.setTop (mkF m pc Ls (.int y :: .int x :: rest))) := by
  subst hp; exact own_via (fun _ k => iremM X hx (g := mkF m pc Ls (.int y :: .int x :: rest)) rfl hd rfl hy k) h
theorem own_ineg (X : Stand p l e R s m args below meth c T locs cells slots) (hx : p.tables.exec = Jvm.exec) {pc pc' : Nat} {Ls : Array Slot} {rest : List Value} {x : Int32} (hd : decode c.code pc = .ok (.ineg, 1))  (hp : pc + 1 = pc') (h : own_Ends p e below Φ (T.setTop (mkF m pc' Ls (.int (-x) :: rest)))) : own_Ends p e below Φ (T.setTop (mkF m pc Ls (.int x :: rest))) := by
  subst hp; exact own_via (fun _ k => XS.ineg X.here hx (g := mkF m pc Ls (.int x :: rest)) rfl hd rfl k) h
theorem own_lneg (X : Stand p l e R s m args below meth c T locs cells slots) (hx : p.tables.exec = Jvm.exec) {pc pc' : Nat} {Ls : Array Slot} {rest : List Value} {x : Int64} (hd : decode c.code pc = .ok (.lneg, 1))  (hp : pc + 1 = pc') (h : own_Ends p e below Φ (T.setTop (mkF m pc' Ls (.long (-x) :: rest)))) : own_Ends p e below Φ (T.setTop (mkF m pc Ls (.long x :: rest))) := by
  subst hp; exact own_via (fun _ k => XS.lneg X.here hx (g := mkF m pc Ls (.long x :: rest)) rfl hd rfl k) h
theorem own_i2l (X : Stand p l e R s m args below meth c T locs cells slots) (hx : p.tables.exec = Jvm.exec) {pc pc' : Nat} {Ls : Array Slot} {rest : List Value} {x : Int32} (hd : decode c.code pc = .ok (.i2l, 1))  (hp : pc + 1 = pc') (h : own_Ends p e below Φ (T.setTop (mkF m pc' Ls (.long (x.toInt64) :: rest)))) : own_Ends p e below Φ (T.setTop (mkF m pc Ls (.int x :: rest))) := by
  subst hp; exact own_via (fun _ k => XS.i2l X.here hx (g := mkF m pc Ls (.int x :: rest)) rfl hd rfl k) h
theorem own_l2i (X : Stand p l e R s m args below meth c T locs cells slots) (hx : p.tables.exec = Jvm.exec) {pc pc' : Nat} {Ls : Array Slot} {rest : List Value} {x : Int64} (hd : decode c.code pc = .ok (.l2i, 1))  (hp : pc + 1 = pc') (h : own_Ends p e below Φ (T.setTop (mkF m pc' Ls (.int (x.toInt32) :: rest)))) : own_Ends p e below Φ (T.setTop (mkF m pc Ls (.long x :: rest))) := by
  subst hp; exact own_via (fun _ k => XS.l2i X.here hx (g := mkF m pc Ls (.long x :: rest)) rfl hd rfl k) h
theorem own_i2b (X : Stand p l e R s m args below meth c T locs cells slots) (hx : p.tables.exec = Jvm.exec) {pc pc' : Nat} {Ls : Array Slot} {rest : List Value} {x : Int32} (hd : decode c.code pc = .ok (.i2b, 1))  (hp : pc + 1 = pc') (h : own_Ends p e below Φ (T.setTop (mkF m pc' Ls (.int (x.toInt8.toInt32) :: rest)))) : own_Ends p e below Φ (T.setTop (mkF m pc Ls (.int x :: rest))) := by
  subst hp; exact own_via (fun _ k => XS.i2b X.here hx (g := mkF m pc Ls (.int x :: rest)) rfl hd rfl k) h
theorem own_i2c (X : Stand p l e R s m args below meth c T locs cells slots) (hx : p.tables.exec = Jvm.exec) {pc pc' : Nat} {Ls : Array Slot} {rest : List Value} {x : Int32} (hd : decode c.code pc = .ok (.i2c, 1))  (hp : pc + 1 = pc') (h : own_Ends p e below Φ (T.setTop (mkF m pc' Ls (.int (x.toUInt32.toUInt16.toUInt32.toInt32) :: rest)))) : own_Ends p e below Φ (T.setTop (mkF m pc Ls (.int x :: rest))) := by
  subst hp; exact own_via (fun _ k => XS.i2c X.here hx (g := mkF m pc Ls (.int x :: rest)) rfl hd rfl k) h
theorem own_i2s (X : Stand p l e R s m args below meth c T locs cells slots) (hx : p.tables.exec = Jvm.exec) {pc pc' : Nat} {Ls : Array Slot} {rest : List Value} {x : Int32} (hd : decode c.code pc = .ok (.i2s, 1))  (hp : pc + 1 = pc') (h : own_Ends p e below Φ (T.setTop (mkF m pc' Ls (.int (x.toInt16.toInt32) :: rest)))) : own_Ends p e below Φ (T.setTop (mkF m pc Ls (.int x :: rest))) := by
  subst hp; exact own_via (fun _ k => XS.i2s X.here hx (g := mkF m pc Ls (.int x :: rest)) rfl hd rfl k) h
theorem own_lcmp (X : Stand p l e R s m args below meth c T locs cells slots) (hx : p.tables.exec = Jvm.exec) {pc pc' : Nat} {Ls : Array Slot} {rest : List Value} {x y : Int64} (hd : decode c.code pc = .ok (.lcmp, 1))  (hp : pc + 1 = pc') (h : own_Ends p e below Φ (T.setTop (mkF m pc' Ls (.int (lcmpW x y) :: rest)))) : own_Ends p e below Φ (T.setTop (mkF m pc Ls (.long y :: .long x :: rest))) := by
  subst hp; exact own_via (fun _ k => XS.lcmp X.here hx (g := mkF m pc Ls (.long y :: .long x :: rest)) rfl hd rfl k) h
theorem own_dup (X : Stand p l e R s m args below meth c T locs cells slots) (hx : p.tables.exec = Jvm.exec) {pc pc' : Nat} {Ls : Array Slot} {rest : List Value} {x : Value} (hd : decode c.code pc = .ok (.dup, 1)) (hc : x.category = 1) (hp : pc + 1 = pc') (h : own_Ends p e below Φ (T.setTop (mkF m pc' Ls (x :: x :: rest)))) : own_Ends p e below Φ (T.setTop (mkF m pc Ls (x :: rest))) := by
  subst hp; exact own_via (fun _ k => XS.dup X.here hx (g := mkF m pc Ls (x :: rest)) rfl hd rfl hc k) h
theorem own_pop (X : Stand p l e R s m args below meth c T locs cells slots) (hx : p.tables.exec = Jvm.exec) {pc pc' : Nat} {Ls : Array Slot} {rest : List Value} {x : Value} (hd : decode c.code pc = .ok (.pop, 1)) (hc : x.category = 1) (hp : pc + 1 = pc') (h : own_Ends p e below Φ (T.setTop (mkF m pc' Ls (rest)))) : own_Ends p e below Φ (T.setTop (mkF m pc Ls (x :: rest))) := by
  subst hp; exact own_via (fun _ k => XS.pop X.here hx (g := mkF m pc Ls (x :: rest)) rfl hd rfl hc k) h
theorem own_dup_x1 (X : Stand p l e R s m args below meth c T locs cells slots) (hx : p.tables.exec = Jvm.exec) {pc pc' : Nat} {Ls : Array Slot} {rest : List Value} {x y : Value} (hd : decode c.code pc = .ok (.dup_x1, 1)) (hc : x.category = 1) (hc' : y.category = 1) (hp : pc + 1 = pc') (h : own_Ends p e below Φ (T.setTop (mkF m pc' Ls (x :: y :: x :: rest)))) : own_Ends p e below Φ (T.setTop (mkF m pc Ls (x :: y :: rest))) := by
  subst hp; exact own_via (fun _ k => XS.dupX1 X.here hx (g := mkF m pc Ls (x :: y :: rest)) rfl hd rfl hc hc' k) h
theorem own_iinc (X : Stand p l e R s m args below meth c T locs cells slots) (hx : p.tables.exec = Jvm.exec) {pc pc' : Nat} {Ls : Array Slot} {rest : List Value} {k : Nat} {cst : Int} {x : Int32} (Ls' : Array Slot) (hd : decode c.code pc = .ok (.iinc k cst, 3)) (hl : Ls[k]? = some (.val (.int x))) (hl' : storeLocals Ls k (.int (x + Int32.ofInt cst)) = some Ls') (hp : pc + 3 = pc') (h : own_Ends p e below Φ (T.setTop (mkF m pc' Ls' rest))) : own_Ends p e below Φ (T.setTop (mkF m pc Ls rest)) := by
  subst hp; exact own_via (fun _ k => XS.iinc X.here hx (g := mkF m pc Ls rest) rfl hd hl hl' k) h
theorem own_goto (X : Stand p l e R s m args below meth c T locs cells slots) (hx : p.tables.exec = Jvm.exec) {pc pc' : Nat} {Ls : Array Slot} {rest : List Value} {o : Int} (hd : decode c.code pc = .ok (.goto o, 3)) (ho : 0 ≤ (pc : Int) + o) (hp : ((pc : Int) + o).toNat = pc') (h : own_Ends p e below Φ (T.setTop (mkF m pc' Ls rest))) : own_Ends p e below Φ (T.setTop (mkF m pc Ls rest)) := own_via (fun _ k => XS.goto X.here hx (g := mkF m pc Ls rest) rfl (pc0 := pc) (pc' := pc') rfl hd ho hp k) h
theorem own_icmp_eq (X : Stand p l e R s m args below meth c T locs cells slots) (hx : p.tables.exec = Jvm.exec) {pc pcT pcF : Nat} {Ls : Array Slot} {rest : List Value} {x y : Int32} {o : Int} (hd : decode c.code pc = .ok (.if_icmp .eq o, 3)) (ho : 0 ≤ (pc : Int) + o) (hT : ((pc : Int) + o).toNat = pcT) (hF : pc + 3 = pcF) (kT : x = y → own_Ends p e below Φ (T.setTop (mkF m pcT Ls rest))) (kF : ¬ x = y → own_Ends p e below Φ (T.setTop (mkF m pcF Ls rest))) : own_Ends p e below Φ (T.setTop (mkF m pc Ls (.int y :: .int x :: rest))) := by
  subst hF; by_cases q : x = y
  · exact own_via (fun _ k => XS.icmpYes X.here hx (g := mkF m pc Ls (.int y :: .int x :: rest)) rfl (pc0 := pc) (pc' := pcT) rfl hd rfl (teq q).1 ho hT k) (kT q)
  · exact own_via (fun _ k => XS.icmpNo X.here hx (g := mkF m pc Ls (.int y :: .int x :: rest)) rfl hd rfl (feq q).1 k) (kF q)
theorem own_if_eq (X : Stand p l e R s m args below meth c T locs cells slots) (hx : p.tables.exec = Jvm.exec) {pc pcT pcF : Nat} {Ls : Array Slot} {rest : List Value} {x : Int32} {o : Int} (hd : decode c.code pc = .ok (.ifCond .eq o, 3)) (ho : 0 ≤ (pc : Int) + o) (hT : ((pc : Int) + o).toNat = pcT) (hF : pc + 3 = pcF) (kT : x = (0 : Int32) → own_Ends p e below Φ (T.setTop (mkF m pcT Ls rest))) (kF : ¬ x = (0 : Int32) → own_Ends p e below Φ (T.setTop (mkF m pcF Ls rest))) : own_Ends p e below Φ (T.setTop (mkF m pc Ls (.int x :: rest))) := by
  subst hF; by_cases q : x = (0 : Int32)
  · exact own_via (fun _ k => XS.ifYes X.here hx (g := mkF m pc Ls (.int x :: rest)) rfl (pc0 := pc) (pc' := pcT) rfl hd rfl ((if0 _ _).trans (teq q).1) ho hT k) (kT q)
  · exact own_via (fun _ k => XS.ifNo X.here hx (g := mkF m pc Ls (.int x :: rest)) rfl hd rfl ((if0 _ _).trans (feq q).1) k) (kF q)
theorem own_icmp_ne (X : Stand p l e R s m args below meth c T locs cells slots) (hx : p.tables.exec = Jvm.exec) {pc pcT pcF : Nat} {Ls : Array Slot} {rest : List Value} {x y : Int32} {o : Int} (hd : decode c.code pc = .ok (.if_icmp .ne o, 3)) (ho : 0 ≤ (pc : Int) + o) (hT : ((pc : Int) + o).toNat = pcT) (hF : pc + 3 = pcF) (kT : ¬ x = y → own_Ends p e below Φ (T.setTop (mkF m pcT Ls rest))) (kF : x = y → own_Ends p e below Φ (T.setTop (mkF m pcF Ls rest))) : own_Ends p e below Φ (T.setTop (mkF m pc Ls (.int y :: .int x :: rest))) := by
  subst hF; by_cases q : x = y
  · exact own_via (fun _ k => XS.icmpNo X.here hx (g := mkF m pc Ls (.int y :: .int x :: rest)) rfl hd rfl (teq q).2 k) (kF q)
  · exact own_via (fun _ k => XS.icmpYes X.here hx (g := mkF m pc Ls (.int y :: .int x :: rest)) rfl (pc0 := pc) (pc' := pcT) rfl hd rfl (feq q).2 ho hT k) (kT q)
theorem own_if_ne (X : Stand p l e R s m args below meth c T locs cells slots) (hx : p.tables.exec = Jvm.exec) {pc pcT pcF : Nat} {Ls : Array Slot} {rest : List Value} {x : Int32} {o : Int} (hd : decode c.code pc = .ok (.ifCond .ne o, 3)) (ho : 0 ≤ (pc : Int) + o) (hT : ((pc : Int) + o).toNat = pcT) (hF : pc + 3 = pcF) (kT : ¬ x = (0 : Int32) → own_Ends p e below Φ (T.setTop (mkF m pcT Ls rest))) (kF : x = (0 : Int32) → own_Ends p e below Φ (T.setTop (mkF m pcF Ls rest))) : own_Ends p e below Φ (T.setTop (mkF m pc Ls (.int x :: rest))) := by
  subst hF; by_cases q : x = (0 : Int32)
  · exact own_via (fun _ k => XS.ifNo X.here hx (g := mkF m pc Ls (.int x :: rest)) rfl hd rfl ((if0 _ _).trans (teq q).2) k) (kF q)
  · exact own_via (fun _ k => XS.ifYes X.here hx (g := mkF m pc Ls (.int x :: rest)) rfl (pc0 := pc) (pc' := pcT) rfl hd rfl ((if0 _ _).trans (feq q).2) ho hT k) (kT q)
theorem own_icmp_lt (X : Stand p l e R s m args below meth c T locs cells slots) (hx : p.tables.exec = Jvm.exec) {pc pcT pcF : Nat} {Ls : Array Slot} {rest : List Value} {x y : Int32} {o : Int} (hd : decode c.code pc = .ok (.if_icmp .lt o, 3)) (ho : 0 ≤ (pc : Int) + o) (hT : ((pc : Int) + o).toNat = pcT) (hF : pc + 3 = pcF) (kT : x < y → own_Ends p e below Φ (T.setTop (mkF m pcT Ls rest))) (kF : ¬ x < y → own_Ends p e below Φ (T.setTop (mkF m pcF Ls rest))) : own_Ends p e below Φ (T.setTop (mkF m pc Ls (.int y :: .int x :: rest))) := by
  subst hF; by_cases q : x < y
  · exact own_via (fun _ k => XS.icmpYes X.here hx (g := mkF m pc Ls (.int y :: .int x :: rest)) rfl (pc0 := pc) (pc' := pcT) rfl hd rfl (tlt q).1 ho hT k) (kT q)
  · exact own_via (fun _ k => XS.icmpNo X.here hx (g := mkF m pc Ls (.int y :: .int x :: rest)) rfl hd rfl (flt q).1 k) (kF q)
theorem own_if_lt (X : Stand p l e R s m args below meth c T locs cells slots) (hx : p.tables.exec = Jvm.exec) {pc pcT pcF : Nat} {Ls : Array Slot} {rest : List Value} {x : Int32} {o : Int} (hd : decode c.code pc = .ok (.ifCond .lt o, 3)) (ho : 0 ≤ (pc : Int) + o) (hT : ((pc : Int) + o).toNat = pcT) (hF : pc + 3 = pcF) (kT : x < (0 : Int32) → own_Ends p e below Φ (T.setTop (mkF m pcT Ls rest))) (kF : ¬ x < (0 : Int32) → own_Ends p e below Φ (T.setTop (mkF m pcF Ls rest))) : own_Ends p e below Φ (T.setTop (mkF m pc Ls (.int x :: rest))) := by
  subst hF; by_cases q : x < (0 : Int32)
  · exact own_via (fun _ k => XS.ifYes X.here hx (g := mkF m pc Ls (.int x :: rest)) rfl (pc0 := pc) (pc' := pcT) rfl hd rfl ((if0 _ _).trans (tlt q).1) ho hT k) (kT q)
  · exact own_via (fun _ k => XS.ifNo X.here hx (g := mkF m pc Ls (.int x :: rest)) rfl hd rfl ((if0 _ _).trans (flt q).1) k) (kF q)
theorem own_icmp_ge (X : Stand p l e R s m args below meth c T locs cells slots) (hx : p.tables.exec = Jvm.exec) {pc pcT pcF : Nat} {Ls : Array Slot} {rest : List Value} {x y : Int32} {o : Int} (hd : decode c.code pc = .ok (.if_icmp .ge o, 3)) (ho : 0 ≤ (pc : Int) + o) (hT : ((pc : Int) + o).toNat = pcT) (hF : pc + 3 = pcF) (kT : ¬ x < y → own_Ends p e below Φ (T.setTop (mkF m pcT Ls rest))) (kF : x < y → own_Ends p e below Φ (T.setTop (mkF m pcF Ls rest))) : own_Ends p e below Φ (T.setTop (mkF m pc Ls (.int y :: .int x :: rest))) := by
  subst hF; by_cases q : x < y
  · exact own_via (fun _ k => XS.icmpNo X.here hx (g := mkF m pc Ls (.int y :: .int x :: rest)) rfl hd rfl (tlt q).2.1 k) (kF q)
  · exact own_via (fun _ k => XS.icmpYes X.here hx (g := mkF m pc Ls (.int y :: .int x :: rest)) rfl (pc0 := pc) (pc' := pcT) rfl hd rfl (flt q).2.1 ho hT k) (kT q)
theorem own_if_ge (X : Stand p l e R s m args below meth c T locs cells slots) (hx : p.tables.exec = Jvm.exec) {pc pcT pcF : Nat} {Ls : Array Slot} {rest : List Value} {x : Int32} {o : Int} (hd : decode c.code pc = .ok (.ifCond .ge o, 3)) (ho : 0 ≤ (pc : Int) + o) (hT : ((pc : Int) + o).toNat = pcT) (hF : pc + 3 = pcF) (kT : ¬ x < (0 : Int32) → own_Ends p e below Φ (T.setTop (mkF m pcT Ls rest))) (kF : x < (0 : Int32) → own_Ends p e below Φ (T.setTop (mkF m pcF Ls rest))) : own_Ends p e below Φ (T.setTop (mkF m pc Ls (.int x :: rest))) := by
  subst hF; by_cases q : x < (0 : Int32)
  · exact own_via (fun _ k => XS.ifNo X.here hx (g := mkF m pc Ls (.int x :: rest)) rfl hd rfl ((if0 _ _).trans (tlt q).2.1) k) (kF q)
  · exact own_via (fun _ k => XS.ifYes X.here hx (g := mkF m pc Ls (.int x :: rest)) rfl (pc0 := pc) (pc' := pcT) rfl hd rfl ((if0 _ _).trans (flt q).2.1) ho hT k) (kT q)
theorem own_icmp_gt (X : Stand p l e R s m args below meth c T locs cells slots) (hx : p.tables.exec = Jvm.exec) {pc pcT pcF : Nat} {Ls : Array Slot} {rest : List Value} {x y : Int32} {o : Int} (hd : decode c.code pc = .ok (.if_icmp .gt o, 3)) (ho : 0 ≤ (pc : Int) + o) (hT : ((pc : Int) + o).toNat = pcT) (hF : pc + 3 = pcF) (kT : y < x → own_Ends p e below Φ (T.setTop (mkF m pcT Ls rest))) (kF : ¬ y < x → own_Ends p e below Φ (T.setTop (mkF m pcF Ls rest))) : own_Ends p e below Φ (T.setTop (mkF m pc Ls (.int y :: .int x :: rest))) := by
  subst hF; by_cases q : y < x
  · exact own_via (fun _ k => XS.icmpYes X.here hx (g := mkF m pc Ls (.int y :: .int x :: rest)) rfl (pc0 := pc) (pc' := pcT) rfl hd rfl (tlt q).2.2.1 ho hT k) (kT q)
  · exact own_via (fun _ k => XS.icmpNo X.here hx (g := mkF m pc Ls (.int y :: .int x :: rest)) rfl hd rfl (flt q).2.2.1 k) (kF q)
theorem own_if_gt (X : Stand p l e R s m args below meth c T locs cells slots) (hx : p.tables.exec = Jvm.exec) {pc pcT pcF : Nat} {Ls : Array Slot} {rest : List Value} {x : Int32} {o : Int} (hd : decode c.code pc = .ok (.ifCond .gt o, 3)) (ho : 0 ≤ (pc : Int) + o) (hT : ((pc : Int) + o).toNat = pcT) (hF : pc + 3 = pcF) (kT : (0 : Int32) < x → own_Ends p e below Φ (T.setTop (mkF m pcT Ls rest))) (kF : ¬ (0 : Int32) < x → own_Ends p e below Φ (T.setTop (mkF m pcF Ls rest))) : own_Ends p e below Φ (T.setTop (mkF m pc Ls (.int x :: rest))) := by
  subst hF; by_cases q : (0 : Int32) < x
  · exact own_via (fun _ k => XS.ifYes X.here hx (g := mkF m pc Ls (.int x :: rest)) rfl (pc0 := pc) (pc' := pcT) rfl hd rfl ((if0 _ _).trans (tlt q).2.2.1) ho hT k) (kT q)
  · exact own_via (fun _ k => XS.ifNo X.here hx (g := mkF m pc Ls (.int x :: rest)) rfl hd rfl ((if0 _ _).trans (flt q).2.2.1) k) (kF q)
theorem own_icmp_le (X : Stand p l e R s m args below meth c T locs cells slots) (hx : p.tables.exec = Jvm.exec) {pc pcT pcF : Nat} {Ls : Array Slot} {rest : List Value} {x y : Int32} {o : Int} (hd : decode c.code pc = .ok (.if_icmp .le o, 3)) (ho : 0 ≤ (pc : Int) + o) (hT : ((pc : Int) + o).toNat = pcT) (hF : pc + 3 = pcF) (kT : ¬ y < x → own_Ends p e below Φ (T.setTop (mkF m pcT Ls rest))) (kF : y < x → own_Ends p e below Φ (T.setTop (mkF m pcF Ls rest))) : own_Ends p e below Φ (T.setTop (mkF m pc Ls (.int y :: .int x :: rest))) := by
  subst hF; by_cases q : y < x
  · exact own_via (fun _ k => XS.icmpNo X.here hx (g := mkF m pc Ls (.int y :: .int x :: rest)) rfl hd rfl (tlt q).2.2.2 k) (kF q)
  · exact own_via (fun _ k => XS.icmpYes X.here hx (g := mkF m pc Ls (.int y :: .int x :: rest)) rfl (pc0 := pc) (pc' := pcT) rfl hd rfl (flt q).2.2.2 ho hT k) (kT q)
theorem own_if_le (X : Stand p l e R s m args below meth c T locs cells slots) (hx : p.tables.exec = Jvm.exec) {pc pcT pcF : Nat} {Ls : Array Slot} {rest : List Value} {x : Int32} {o : Int} (hd : decode c.code pc = .ok (.ifCond .le o, 3)) (ho : 0 ≤ (pc : Int) + o) (hT : ((pc : Int) + o).toNat = pcT) (hF : pc + 3 = pcF) (kT : ¬ (0 : Int32) < x → own_Ends p e below Φ (T.setTop (mkF m pcT Ls rest))) (kF : (0 : Int32) < x → own_Ends p e below Φ (T.setTop (mkF m pcF Ls rest))) : own_Ends p e below Φ (T.setTop (mkF m pc Ls (.int x :: rest))) := by
  subst hF; by_cases q : (0 : Int32) < x
  · exact own_via (fun _ k => XS.ifNo X.here hx (g := mkF m pc Ls (.int x :: rest)) rfl hd rfl ((if0 _ _).trans (tlt q).2.2.2) k) (kF q)
  · exact own_via (fun _ k => XS.ifYes X.here hx (g := mkF m pc Ls (.int x :: rest)) rfl (pc0 := pc) (pc' := pcT) rfl hd rfl ((if0 _ _).trans (flt q).2.2.2) ho hT k) (kT q)
theorem own_icmpT (X : Stand p l e R s m args below meth c T locs cells slots) (hx : p.tables.exec = Jvm.exec) {pc pcT : Nat} {Ls : Array Slot} {rest : List Value} {x y : Int32} {cd : ClassFile.Cond} {o : Int} (hd : decode c.code pc = .ok (.if_icmp cd o, 3)) (ho : 0 ≤ (pc : Int) + o) (hT : ((pc : Int) + o).toNat = pcT) (q : if_icmp.holds cd x y = true) (h : own_Ends p e below Φ (T.setTop (mkF m pcT Ls rest))) : own_Ends p e below Φ (T.setTop (mkF m pc Ls (.int y :: .int x :: rest))) :=
  own_via (fun _ k => XS.icmpYes X.here hx (g := mkF m pc Ls (.int y :: .int x :: rest)) rfl (pc0 := pc) (pc' := pcT) rfl hd rfl q ho hT k) h
theorem own_icmpF (X : Stand p l e R s m args below meth c T locs cells slots) (hx : p.tables.exec = Jvm.exec) {pc pcF : Nat} {Ls : Array Slot} {rest : List Value} {x y : Int32} {cd : ClassFile.Cond} {o : Int} (hd : decode c.code pc = .ok (.if_icmp cd o, 3)) (hF : pc + 3 = pcF) (q : if_icmp.holds cd x y = false) (h : own_Ends p e below Φ (T.setTop (mkF m pcF Ls rest))) : own_Ends p e below Φ (T.setTop (mkF m pc Ls (.int y :: .int x :: rest))) := by
  subst hF; exact own_via (fun _ k => XS.icmpNo X.here hx (g := mkF m pc Ls (.int y :: .int x :: rest)) rfl hd rfl q k) h
theorem own_ifT (X : Stand p l e R s m args below meth c T locs cells slots) (hx : p.tables.exec = Jvm.exec) {pc pcT : Nat} {Ls : Array Slot} {rest : List Value} {x : Int32} {cd : ClassFile.Cond} {o : Int} (hd : decode c.code pc = .ok (.ifCond cd o, 3)) (ho : 0 ≤ (pc : Int) + o) (hT : ((pc : Int) + o).toNat = pcT) (q : if_icmp.holds cd x 0 = true) (h : own_Ends p e below Φ (T.setTop (mkF m pcT Ls rest))) : own_Ends p e below Φ (T.setTop (mkF m pc Ls (.int x :: rest))) :=
  own_via (fun _ k => XS.ifYes X.here hx (g := mkF m pc Ls (.int x :: rest)) rfl (pc0 := pc) (pc' := pcT) rfl hd rfl ((if0 _ _).trans q) ho hT k) h
theorem own_ifF (X : Stand p l e R s m args below meth c T locs cells slots) (hx : p.tables.exec = Jvm.exec) {pc pcF : Nat} {Ls : Array Slot} {rest : List Value} {x : Int32} {cd : ClassFile.Cond} {o : Int} (hd : decode c.code pc = .ok (.ifCond cd o, 3)) (hF : pc + 3 = pcF) (q : if_icmp.holds cd x 0 = false) (h : own_Ends p e below Φ (T.setTop (mkF m pcF Ls rest))) : own_Ends p e below Φ (T.setTop (mkF m pc Ls (.int x :: rest))) := by
  subst hF; exact own_via (fun _ k => XS.ifNo X.here hx (g := mkF m pc Ls (.int x :: rest)) rfl hd rfl ((if0 _ _).trans q) k) h
theorem own_ifnullT (X : Stand p l e R s m args below meth c T locs cells slots) (hx : p.tables.exec = Jvm.exec) {pc pcT : Nat} {Ls : Array Slot} {rest : List Value} {o : Int} (hd : decode c.code pc = .ok (.ifnull o, 3)) (ho : 0 ≤ (pc : Int) + o) (hT : ((pc : Int) + o).toNat = pcT) (h : own_Ends p e below Φ (T.setTop (mkF m pcT Ls rest))) : own_Ends p e below Φ (T.setTop (mkF m pc Ls (.null :: rest))) :=
  own_via (fun _ k => XS.ifnullYes X.here hx (g := mkF m pc Ls (.null :: rest)) rfl (pc0 := pc) (pc' := pcT) rfl hd rfl ho hT k) h
theorem own_ifnullF (X : Stand p l e R s m args below meth c T locs cells slots) (hx : p.tables.exec = Jvm.exec) {pc pcF : Nat} {Ls : Array Slot} {rest : List Value} {b : Addr} {o : Int} (hd : decode c.code pc = .ok (.ifnull o, 3)) (hF : pc + 3 = pcF) (h : own_Ends p e below Φ (T.setTop (mkF m pcF Ls rest))) : own_Ends p e below Φ (T.setTop (mkF m pc Ls (.ref b :: rest))) := by
  subst hF; exact own_via (fun _ k => XS.ifnullNo X.here hx (g := mkF m pc Ls (.ref b :: rest)) rfl hd rfl k) h
theorem own_ifnonnullT (X : Stand p l e R s m args below meth c T locs cells slots) (hx : p.tables.exec = Jvm.exec) {pc pcT : Nat} {Ls : Array Slot} {rest : List Value} {b : Addr} {o : Int} (hd : decode c.code pc = .ok (.ifnonnull o, 3)) (ho : 0 ≤ (pc : Int) + o) (hT : ((pc : Int) + o).toNat = pcT) (h : own_Ends p e below Φ (T.setTop (mkF m pcT Ls rest))) : own_Ends p e below Φ (T.setTop (mkF m pc Ls (.ref b :: rest))) :=
  own_via (fun _ k => XS.ifnonnullYes X.here hx (g := mkF m pc Ls (.ref b :: rest)) rfl (pc0 := pc) (pc' := pcT) rfl hd rfl ho hT k) h
theorem own_ifnonnullF (X : Stand p l e R s m args below meth c T locs cells slots) (hx : p.tables.exec = Jvm.exec) {pc pcF : Nat} {Ls : Array Slot} {rest : List Value} {o : Int} (hd : decode c.code pc = .ok (.ifnonnull o, 3)) (hF : pc + 3 = pcF) (h : own_Ends p e below Φ (T.setTop (mkF m pcF Ls rest))) : own_Ends p e below Φ (T.setTop (mkF m pc Ls (.null :: rest))) := by
  subst hF; exact own_via (fun _ k => XS.ifnonnullNo X.here hx (g := mkF m pc Ls (.null :: rest)) rfl hd rfl k) h
theorem own_acmp (X : Stand p l e R s m args below meth c T locs cells slots) (hx : p.tables.exec = Jvm.exec) {pc pcT pcF : Nat} {Ls : Array Slot} {rest : List Value} {x y : Value} {cd : ClassFile.ACond} {o : Int} (hd : decode c.code pc = .ok (.if_acmp cd o, 3)) (h1 : x.isRef = true) (h2 : y.isRef = true) (ho : 0 ≤ (pc : Int) + o) (hT : ((pc : Int) + o).toNat = pcT) (hF : pc + 3 = pcF)
    (kT : acV cd (decide (x = y)) = true → own_Ends p e below Φ (T.setTop (mkF m pcT Ls rest))) (kF : acV cd (decide (x = y)) = false → own_Ends p e below Φ (T.setTop (mkF m pcF Ls rest))) : own_Ends p e below Φ (T.setTop (mkF m pc Ls (y :: x :: rest))) := by
  subst hF hT
  rcases q : acV cd (decide (x = y)) with _ | _
  · exact own_via (fun _ k => Jvm.RoadKit.acmp (g := mkF m pc Ls (y :: x :: rest)) X hx rfl h1 h2 (pc0 := pc) (pc' := pc + 3) rfl hd rfl rfl ho (by rw [q]; rfl) k) (kF q)
  · exact own_via (fun _ k => Jvm.RoadKit.acmp (g := mkF m pc Ls (y :: x :: rest)) X hx rfl h1 h2 (pc0 := pc) (pc' := ((pc : Int) + o).toNat) rfl hd rfl rfl ho (by rw [q]; rfl) k) (kT q)
theorem own_acmp_eq (X : Stand p l e R s m args below meth c T locs cells slots) (hx : p.tables.exec = Jvm.exec) {pc pcT pcF : Nat} {Ls : Array Slot} {rest : List Value} {x y : Addr} {o : Int} (hd : decode c.code pc = .ok (.if_acmp .eq o, 3)) (ho : 0 ≤ (pc : Int) + o) (hT : ((pc : Int) + o).toNat = pcT) (hF : pc + 3 = pcF)
    (kT : x = y → own_Ends p e below Φ (T.setTop (mkF m pcT Ls rest))) (kF : ¬ x = y → own_Ends p e below Φ (T.setTop (mkF m pcF Ls rest))) : own_Ends p e below Φ (T.setTop (mkF m pc Ls (.ref y :: .ref x :: rest))) :=
  own_acmp X hx hd rfl rfl ho hT hF (fun q => kT (by simpa [acV] using q)) (fun q => kF (by simpa [acV] using q))
theorem own_acmp_ne (X : Stand p l e R s m args below meth c T locs cells slots) (hx : p.tables.exec = Jvm.exec) {pc pcT pcF : Nat} {Ls : Array Slot} {rest : List Value} {x y : Addr} {o : Int} (hd : decode c.code pc = .ok (.if_acmp .ne o, 3)) (ho : 0 ≤ (pc : Int) + o) (hT : ((pc : Int) + o).toNat = pcT) (hF : pc + 3 = pcF)
    (kT : ¬ x = y → own_Ends p e below Φ (T.setTop (mkF m pcT Ls rest))) (kF : x = y → own_Ends p e below Φ (T.setTop (mkF m pcF Ls rest))) : own_Ends p e below Φ (T.setTop (mkF m pc Ls (.ref y :: .ref x :: rest))) :=
  own_acmp X hx hd rfl rfl ho hT hF (fun q => kT (by simpa [acV] using q)) (fun q => kF (by simpa [acV] using q))
theorem own_ldcInt (X : Stand p l e R s m args below meth c T locs cells slots) (hx : p.tables.exec = Jvm.exec) (hZ : Z.Warmed39 s.vm) {own : String} {index : Nat} {v : Int32} (hown : s.vm.findClass own = some m.cls) (w : (Jvm.Cond.constant own index v).before a0 Z = true) {pc pc' : Nat} {Ls : Array Slot} {rest : List Value} (hd : decode c.code pc = .ok (.ldc index, 2)) (hp : pc + 2 = pc') (h : own_Ends p e below Φ (T.setTop (mkF m pc' Ls (.int v :: rest)))) : own_Ends p e below Φ (T.setTop (mkF m pc Ls rest)) := by
  subst hp; exact own_via (X.ldcInt hx hown (mvT hZ w) (g := mkF m pc Ls rest) rfl hd) h
theorem own_getF (X : Stand p l e R s m args below meth c T locs cells slots) (hx : p.tables.exec = Jvm.exec) (hZ : Z.Warmed39 s.vm) {own R0 O n d host : String} {index : Nat} (hown : s.vm.findClass own = some m.cls) (w : (Jvm.Cond.fieldLink own index R0 n d).before a0 Z = true ∨ (Jvm.Cond.fieldLinkNest own index R0 n d host).before a0 Z = true) (via : Via Z R0 O n d) (eT : T.heap = h) {a : Addr} {v : Value} (F : Fld Z h a O n d v) {pc pc' : Nat} {Ls : Array Slot} {rest : List Value}
    (hd : decode c.code pc = .ok (.getfield index, 3)) (hp : pc + 3 = pc') (k : ∀ T', Stand p l e R s m args below meth c T' locs cells slots → T'.heap = h → own_Ends p e below Φ (T'.setTop (mkF m pc' Ls (v :: rest)))) : own_Ends p e below Φ (T.setTop (mkF m pc Ls (.ref a :: rest))) := by
  subst hp; obtain ⟨T', X', e', st⟩ := getF X hx hZ hown w via eT F (g := mkF m pc Ls (.ref a :: rest)) rfl rfl hd
  exact own_via st (k T' X' e')
theorem own_getS (X : Stand p l e R s m args below meth c T locs cells slots) (hx : p.tables.exec = Jvm.exec) (hZ : Z.Warmed39 s.vm) {own R0 O n d host : String} {index : Nat} (hown : s.vm.findClass own = some m.cls) (w : (Jvm.Cond.fieldLink own index R0 n d).before a0 Z = true ∨ (Jvm.Cond.fieldLinkNest own index R0 n d host).before a0 Z = true) (via : Via Z R0 O n d) (eT : T.heap = h) {v : Value} (F : Sta Z h O n d v) {pc pc' : Nat} {Ls : Array Slot} {rest : List Value}
    (hd : decode c.code pc = .ok (.getstatic index, 3)) (hp : pc + 3 = pc') (k : ∀ T', Stand p l e R s m args below meth c T' locs cells slots → T'.heap = h → own_Ends p e below Φ (T'.setTop (mkF m pc' Ls (v :: rest)))) : own_Ends p e below Φ (T.setTop (mkF m pc Ls rest)) := by
  subst hp; obtain ⟨T', X', e', st⟩ := getS2 X hx hZ hown w via eT F (g := mkF m pc Ls rest) rfl hd
  exact own_via st (k T' X' e')
theorem own_putF (X : Stand p l e R s m args below meth c T locs cells slots) (hx : p.tables.exec = Jvm.exec) (hZ : Z.Warmed39 s.vm) {own R0 O n d host C : String} {index kk : Nat} {ty : FieldType} (hown : s.vm.findClass own = some m.cls) (w : (Jvm.Cond.fieldLink own index R0 n d).before a0 Z = true ∨ (Jvm.Cond.fieldLinkNest own index R0 n d host).before a0 Z = true) (via : Via Z R0 O n d) (eT : T.heap = h) {a : Addr} {v old : Value} (F : Fld Z h a O n d old) (E : Exa Z h a C)
    (L : (Jvm.Cond.lays C O n d).before a0 Z = true ∨ ((Jvm.Cond.laysFinal C O n d).before a0 Z = true ∧ own = O ∧ meth.name = "<init>")) (wi : (Jvm.Cond.instantiable C kk).before a0 Z = true) (hty : parseFieldDescriptor d = some ty) (hn : narrow ty v = v) (hf : fits ty v = true) {n0 : Nat} (N : Fr n0 locs) (g : n0 ≤ a) {pc pc' : Nat} {Ls : Array Slot} {rest : List Value}
    (hd : decode c.code pc = .ok (.putfield index, 3)) (hp : pc + 3 = pc') (k : ∀ T' h', Stand p l e R s m args below meth c T' (locs ++ [⟨a, Jvm.RoadKit.slotOf Z O n d⟩]) cells slots → T'.heap = h' → Wr h h' a (Jvm.RoadKit.slotOf Z O n d) v → Fr n0 (locs ++ [⟨a, Jvm.RoadKit.slotOf Z O n d⟩]) → own_Ends p e below Φ (T'.setTop (mkF m pc' Ls rest))) : own_Ends p e below Φ (T.setTop (mkF m pc Ls (v :: .ref a :: rest))) := by
  subst hp; obtain ⟨T', h', X', e', W', st⟩ := putF X hx hZ hown w via eT F E L wi hty hn hf (g := mkF m pc Ls (v :: .ref a :: rest)) rfl rfl hd
  exact own_via st (k T' h' X' e' W' (Fr.snoc X' N g))
theorem own_putFN (X : Stand p l e R s m args below meth c T locs cells slots) (hx : p.tables.exec = Jvm.exec) (hZ : Z.Warmed39 s.vm) {own R0 O n d C : String} {index kk : Nat} {ty : FieldType} (hown : s.vm.findClass own = some m.cls) (w : (Jvm.Cond.fieldLink own index R0 n d).before a0 Z = true) (via : Via Z R0 O n d) (eT : T.heap = h) {a : Addr} {v old : Value} (v' : Value) (F : Fld Z h a O n d old) (E : Exa Z h a C)
    (L : (Jvm.Cond.lays C O n d).before a0 Z = true ∨ ((Jvm.Cond.laysFinal C O n d).before a0 Z = true ∧ own = O ∧ meth.name = "<init>")) (wi : (Jvm.Cond.instantiable C kk).before a0 Z = true) (hty : parseFieldDescriptor d = some ty) (hn : narrow ty v = v') (hf : fits ty v' = true) {n0 : Nat} (N : Fr n0 locs) (g : n0 ≤ a) {pc pc' : Nat} {Ls : Array Slot} {rest : List Value}
    (hd : decode c.code pc = .ok (.putfield index, 3)) (hp : pc + 3 = pc') (k : ∀ T' h', Stand p l e R s m args below meth c T' (locs ++ [⟨a, Jvm.RoadKit.slotOf Z O n d⟩]) cells slots → T'.heap = h' → Wr h h' a (Jvm.RoadKit.slotOf Z O n d) v' → Fr n0 (locs ++ [⟨a, Jvm.RoadKit.slotOf Z O n d⟩]) → own_Ends p e below Φ (T'.setTop (mkF m pc' Ls rest))) : own_Ends p e below Φ (T.setTop (mkF m pc Ls (v :: .ref a :: rest))) := by
  subst hp; obtain ⟨T', h', X', e', W', st⟩ := putFN X hx hZ hown w via eT F E L wi hty hn hf (g := mkF m pc Ls (v :: .ref a :: rest)) rfl rfl hd
  exact own_via st (k T' h' X' e' W' (Fr.snoc X' N g))
theorem own_new (X : Stand p l e R s m args below meth c T locs cells slots) (hx : p.tables.exec = Jvm.exec) (hZ : Z.Warmed39 s.vm) {own C : String} {index n : Nat} (hown : s.vm.findClass own = some m.cls) (w : (Jvm.Cond.classLink own index C).before a0 Z = true) (wi : (Jvm.Cond.instantiable C n).before a0 Z = true) (wz : (Jvm.Cond.initialized C).before a0 Z = true) (eT : T.heap = h) {pc pc' : Nat} {Ls : Array Slot} {rest : List Value}
    (hd : decode c.code pc = .ok (.new index, 3)) (hc : cells + 1 ≤ R.cells) (hl : slots + n ≤ R.slots) (hp : pc + 3 = pc')
    (k : ∀ T' h' b, Stand p l e R s m args below meth c T' locs (cells + 1) (slots + n) → T'.heap = h' → b = h.size → Ext h h' → Exa Z h' b C → (∀ {O nm d : String} {ty : FieldType}, Laid Z a0 C O nm d → parseFieldDescriptor d = some ty → Fld Z h' b O nm d (defaultValue ty)) → own_Ends p e below Φ (T'.setTop (mkF m pc' Ls (.ref b :: rest)))) : own_Ends p e below Φ (T.setTop (mkF m pc Ls rest)) := by
  subst hp; obtain ⟨T', h', X', e', E', A', D', -, st⟩ := newO X hx hZ hown w wi wz eT (g := mkF m pc Ls rest) rfl hd hc hl
  exact own_via st (k T' h' _ X' e' rfl E' A' D')
theorem own_initO (X : Stand p l e R s m args below meth c T locs cells slots) (hx : p.tables.exec = Jvm.exec) (hZ : Z.Warmed39 s.vm) {own : String} {idx : Nat} (hown : s.vm.findClass own = some m.cls) (w1 : (Jvm.Cond.methodLink own idx Lib.objectInit).before a0 Z = true) (w2 : (Jvm.Cond.instanceMethod Lib.objectInit).before a0 Z = true) (w3 : (Jvm.Cond.code Lib.objectInit ⟨#[0xb1]⟩ 1 none).before a0 Z = true) (eT : T.heap = h) {a : Addr} {pc pc' : Nat} {Ls : Array Slot} {rest : List Value} (hsize : Ls.size = c.maxLocals)
    (hd : decode c.code pc = .ok (.invokespecial idx, 3)) (W : Nat) (hW : (rest.map fun v => v.category).sum = W) (hf : 1 ≤ R.frames) (hl : W + 12 ≤ R.locals) (hp : pc + 3 = pc') (k : ∀ T', Stand p l e R s m args below meth c T' locs cells slots → T'.heap = h → own_Ends p e below Φ (T'.setTop (mkF m pc' Ls rest))) : own_Ends p e below Φ (T.setTop (mkF m pc Ls (.ref a :: rest))) := by
  subst hp; obtain ⟨T', X', e', st⟩ := initO X hx hZ hown w1 w2 w3 eT (g := mkF m pc Ls (.ref a :: rest)) rfl hsize rfl hd hf (W := W) (by rw [← hW]; show 2 * 0 + _ ≤ _; omega) hl
  exact own_via st (k T' X' e')
theorem own_static (X : Stand p l e R s m args below meth c T locs cells slots) (hx : p.tables.exec = Jvm.exec) (hZ : Z.Warmed39 s.vm) {own : String} {index : Nat} {y : MethodName} {bytes : ByteArray} {maxL : Nat} {ret : Option FieldType} {rm : Room} {Q : Option Value → Heap → List Loc → Prop} (hown : s.vm.findClass own = some m.cls) (w1 : (Jvm.Cond.methodLink own index y).before a0 Z = true) (w2 : (Jvm.Cond.static y).before a0 Z = true) (w3 : (Jvm.Cond.initialized y.cls).before a0 Z = true) (w4 : (Jvm.Cond.code y bytes maxL ret).before a0 Z = true) (hy : y.cls ≠ "java/lang/invoke/MethodHandle" ∧ y.cls ≠ "java/lang/invoke/VarHandle") (eT : T.heap = h) (hf : rm.frames + 1 ≤ R.frames) {W : Nat} (hl : W + (maxL + 11) + rm.locals ≤ R.locals) (hc : cells + rm.cells ≤ R.cells) (hs : slots + rm.slots ≤ R.slots) {pc pc' : Nat} {Ls : Array Slot} (argsL rest : List Value) {st : List Value} (hsize : Ls.size = c.maxLocals) (hM : own_Met l y bytes maxL ret rm Z argsL.toArray h Q)
    {ps : List FieldType} {r : Option FieldType} (hpd : parseMethodDescriptor y.desc = some ⟨ps, r⟩) (hlen : argsL.length = ps.length) (hst : st = argsL.reverse ++ rest) (hW : (rest.map fun v => v.category).sum = W) (hd : decode c.code pc = .ok (.invokestatic index, 3)) (hp : pc + 3 = pc') (k : ∀ v T' L, Stand p l e R s m args below meth c T' (locs ++ L) (cells + rm.cells) (slots + rm.slots) → Q v T'.heap L → own_Ends p e below Φ (T'.setTop (mkF m pc' Ls (v.toList ++ rest)))) : own_Ends p e below Φ (T.setTop (mkF m pc Ls st)) := by
  subst hp
  obtain ⟨v, _, ⟨T', L', k', n'⟩, -, X', ⟨Lc, hQ, e1, e2, e3⟩, st'⟩ := Jvm.LawKit.callS X hx (y := y) hown (mvT hZ w1) (mvT hZ w2) (mvT hZ w3) (mvT hZ w4) hy (backOf (W := W) (hM []) hZ w4 w3 hf hl) (g := mkF m pc Ls st) rfl hsize (argsL := argsL) (rest := rest) (lenOf hpd hlen) hst (by rw [← hW]; show 2 * 0 + _ ≤ _; omega) hd (fun _ _ => ⟨rfl, eT, hc, hs⟩)
  dsimp only [Pt.U, Pt.locs, Pt.cells, Pt.slots] at X' e1 e2 e3 st' hQ
  subst e1 e2 e3
  exact own_via st' (k v T' Lc X' hQ)
theorem own_special (X : Stand p l e R s m args below meth c T locs cells slots) (hx : p.tables.exec = Jvm.exec) (hZ : Z.Warmed39 s.vm) {own : String} {index : Nat} {y : MethodName} {bytes : ByteArray} {maxL : Nat} {rm : Room} {Q : Option Value → Heap → List Loc → Prop} (hy1 : y.name = "<init>") (hown : s.vm.findClass own = some m.cls) (w1 : (Jvm.Cond.methodLink own index y).before a0 Z = true) (w2 : (Jvm.Cond.instanceMethod y).before a0 Z = true) (w3 : (Jvm.Cond.initialized y.cls).before a0 Z = true) (w4 : (Jvm.Cond.code y bytes maxL none).before a0 Z = true) (hy : y.cls ≠ "java/lang/invoke/MethodHandle" ∧ y.cls ≠ "java/lang/invoke/VarHandle") (eT : T.heap = h) (hf : rm.frames + 1 ≤ R.frames) {W : Nat} (hl : W + (maxL + 11) + rm.locals ≤ R.locals) (hc : cells + rm.cells ≤ R.cells) (hs : slots + rm.slots ≤ R.slots) {pc pc' : Nat} {Ls : Array Slot} (argsL rest : List Value) {st : List Value} (hsize : Ls.size = c.maxLocals) {a : Addr} (hM : own_Met l y bytes maxL none rm Z (.ref a :: argsL).toArray h Q)
    {ps : List FieldType} {r : Option FieldType} (hpd : parseMethodDescriptor y.desc = some ⟨ps, r⟩) (hlen : argsL.length = ps.length) (hst : st = argsL.reverse ++ .ref a :: rest) (hW : (rest.map fun v => v.category).sum = W) (hd : decode c.code pc = .ok (.invokespecial index, 3)) (hp : pc + 3 = pc') (k : ∀ v T' L, Stand p l e R s m args below meth c T' (locs ++ L) (cells + rm.cells) (slots + rm.slots) → Q v T'.heap L → own_Ends p e below Φ (T'.setTop (mkF m pc' Ls (v.toList ++ rest)))) : own_Ends p e below Φ (T.setTop (mkF m pc Ls st)) := by
  subst hp
  obtain ⟨v, _, ⟨T', L', k', n'⟩, -, X', ⟨Lc, hQ, e1, e2, e3⟩, st'⟩ := X.specialBack hx (y := y) hy1 hown (mvT hZ w1) (mvT hZ w2) (mvT hZ w4) hy (backOf (W := W) (hM []) hZ w4 w3 hf hl) (g := mkF m pc Ls st) rfl hsize (Steps.refl _) (a := a) (argsL := argsL) (rest := rest) (lenOf hpd hlen) hst (by rw [← hW]; show 2 * 0 + _ ≤ _; omega) hd (fun _ _ => ⟨rfl, eT, hc, hs⟩)
  dsimp only [Pt.U, Pt.locs, Pt.cells, Pt.slots] at X' e1 e2 e3 st' hQ
  subst e1 e2 e3
  exact own_thru st' (k v T' Lc X' hQ)
theorem own_virtual (X : Stand p l e R s m args below meth c T locs cells slots) (hx : p.tables.exec = Jvm.exec) (hZ : Z.Warmed39 s.vm) {own C : String} {index : Nat} {y z : MethodName} {bytes : ByteArray} {maxL : Nat} {ret : Option FieldType} {rm : Room} {Q : Option Value → Heap → List Loc → Prop} (hown : s.vm.findClass own = some m.cls) (w1 : (Jvm.Cond.methodLink own index y).before a0 Z = true) (w2 : (Jvm.Cond.declares y).before a0 Z = true) (hnf : NotFace s y) (w3 : (Jvm.Cond.selects C y z).before a0 Z = true) (w4 : (Jvm.Cond.instanceMethod z).before a0 Z = true) (w5 : (Jvm.Cond.initialized z.cls).before a0 Z = true) (w6 : (Jvm.Cond.code z bytes maxL ret).before a0 Z = true) (hy : y.cls ≠ "java/lang/invoke/MethodHandle" ∧ y.cls ≠ "java/lang/invoke/VarHandle") (eT : T.heap = h) (hf : rm.frames + 1 ≤ R.frames) {W : Nat} (hl : W + (maxL + 11) + rm.locals ≤ R.locals) (hc : cells + rm.cells ≤ R.cells) (hs : slots + rm.slots ≤ R.slots) {pc pc' : Nat} {Ls : Array Slot} (argsL rest : List Value) {st : List Value} (hsize : Ls.size = c.maxLocals) {a : Addr} (E : Exa Z h a C) (hM : own_Met l z bytes maxL ret rm Z (.ref a :: argsL).toArray h Q)
    {ps : List FieldType} {r : Option FieldType} (hpd : parseMethodDescriptor y.desc = some ⟨ps, r⟩) (hlen : argsL.length = ps.length) (hst : st = argsL.reverse ++ .ref a :: rest) (hW : (rest.map fun v => v.category).sum = W) (hd : decode c.code pc = .ok (.invokevirtual index, 3)) (hp : pc + 3 = pc') (k : ∀ v T' L, Stand p l e R s m args below meth c T' (locs ++ L) (cells + rm.cells) (slots + rm.slots) → Q v T'.heap L → own_Ends p e below Φ (T'.setTop (mkF m pc' Ls (v.toList ++ rest)))) : own_Ends p e below Φ (T.setTop (mkF m pc Ls st)) := by
  subst hp
  obtain ⟨cq, kq, q1, q2, q3⟩ := isOf hZ eT E
  obtain ⟨v, _, ⟨T', L', k', n'⟩, -, X', ⟨Lc, hQ, e1, e2, e3⟩, st'⟩ := X.virtualBack hx (y := y) (z := z) hown (mvT hZ w1) (mvT hZ w2) hnf (mvT hZ w3) (mvT hZ w4) hy (backOf (W := W) (hM []) hZ w6 w5 hf hl) q1 q3 (g := mkF m pc Ls st) rfl hsize (Steps.refl _) (argsL := argsL) (rest := rest) (lenOf hpd hlen) hst (by rw [← hW]; show 2 * 0 + _ ≤ _; omega) hd (fun _ _ => ⟨rfl, eT, hc, hs⟩)
  dsimp only [Pt.U, Pt.locs, Pt.cells, Pt.slots] at X' e1 e2 e3 st' hQ
  subst e1 e2 e3
  exact own_thru st' (k v T' Lc X' hQ)
theorem own_private (X : Stand p l e R s m args below meth c T locs cells slots) (hx : p.tables.exec = Jvm.exec) (hZ : Z.Warmed39 s.vm) {own : String} {index : Nat} {y : MethodName} {bytes : ByteArray} {maxL : Nat} {ret : Option FieldType} {rm : Room} {Q : Option Value → Heap → List Loc → Prop} (hown : s.vm.findClass own = some m.cls) (w1 : (Jvm.Cond.methodLink own index y).before a0 Z = true) (hnf : ∀ c k, s.vm.findClass y.cls = some c → s.vm.classes[c]? = some k → k.isInterface = false) (w4 : (Jvm.Cond.instanceMethod y).before a0 Z = true) (wp : (Jvm.Cond.privateMethod y).before a0 Z = true) (w5 : (Jvm.Cond.initialized y.cls).before a0 Z = true) (w6 : (Jvm.Cond.code y bytes maxL ret).before a0 Z = true) (hy : y.cls ≠ "java/lang/invoke/MethodHandle" ∧ y.cls ≠ "java/lang/invoke/VarHandle") (eT : T.heap = h) (hf : rm.frames + 1 ≤ R.frames) {W : Nat} (hl : W + (maxL + 11) + rm.locals ≤ R.locals) (hc : cells + rm.cells ≤ R.cells) (hs : slots + rm.slots ≤ R.slots) {pc pc' : Nat} {Ls : Array Slot} (argsL rest : List Value) {st : List Value} (hsize : Ls.size = c.maxLocals) {a : Addr} {C : String} (E : Exa Z h a C) (hM : own_Met l y bytes maxL ret rm Z (.ref a :: argsL).toArray h Q)
    {ps : List FieldType} {r : Option FieldType} (hpd : parseMethodDescriptor y.desc = some ⟨ps, r⟩) (hlen : argsL.length = ps.length) (hst : st = argsL.reverse ++ .ref a :: rest) (hW : (rest.map fun v => v.category).sum = W) (hd : decode c.code pc = .ok (.invokevirtual index, 3)) (hp : pc + 3 = pc') (k : ∀ v T' L, Stand p l e R s m args below meth c T' (locs ++ L) (cells + rm.cells) (slots + rm.slots) → Q v T'.heap L → own_Ends p e below Φ (T'.setTop (mkF m pc' Ls (v.toList ++ rest)))) : own_Ends p e below Φ (T.setTop (mkF m pc Ls st)) := by
  subst hp
  obtain ⟨cl, q1, q2⟩ := E.cell
  have hpr := Cond.privateMethod_at (mvP hZ wp (args := args))
  have hin : (Jvm.Cond.instanceMethod y).before args s = true := mvT hZ w4
  obtain ⟨mk, methM, hnamed, hmethM, -, -⟩ := Cond.instanceMethod_spec hin
  obtain ⟨kk, hkk, -⟩ := className_of_methodNamed hnamed
  have hfc := findClass_of_methodNamed hnamed
  have hsel := selects_self_of_private (args := args) hfc hkk (hnf _ _ hfc hkk) hpr hin hy
  obtain ⟨v, _, ⟨T', L', k', n'⟩, -, X', ⟨Lc, hQ, e1, e2, e3⟩, st'⟩ := X.privateBack hx (y := y) hown (mvT hZ w1) hin hsel hpr (mvT hZ w6) hy (backOf (W := W) (hM []) hZ w6 w5 hf hl) (g := mkF m pc Ls st) rfl hsize (Steps.refl _) (a := a) (by rw [eT]; exact q1) q2 (argsL := argsL) (rest := rest) (lenOf hpd hlen) hst (by rw [← hW]; show 2 * 0 + _ ≤ _; omega) hd (fun _ _ => ⟨rfl, eT, hc, hs⟩)
  dsimp only [Pt.U, Pt.locs, Pt.cells, Pt.slots] at X' e1 e2 e3 st' hQ
  subst e1 e2 e3
  exact own_thru st' (k v T' Lc X' hQ)
theorem own_nf (hZ : Z.Warmed39 s.vm) {C : String} {y z : MethodName} (w : (Jvm.Cond.selects C y z).before a0 Z = true) : ∀ c k, s.vm.findClass z.cls = some c → s.vm.classes[c]? = some k → k.isInterface = false := fun c k h1 h2 => by
  obtain ⟨c2, r2, m2, -, -, q3, -, kP, hkP, hkPi⟩ := Cond.selects_spec (show (Jvm.Cond.selects C y z).before #[] s = true from mvT hZ w)
  have := findClass_of_methodNamed q3
  cases this.symm.trans h1
  cases hkP.symm.trans h2
  exact hkPi
theorem own_leave (X : Stand p l e R s m args below meth c T locs cells slots) (hlocks : meth.locks = false) {v : Option Value} (hv : meth.sig.returnType = none → v = none) {Q : Option Value → Heap → List Loc → Prop} {kc ks : Nat} (hc : cells ≤ kc) (hs : slots ≤ ks) (hq : Q v T.heap locs) {t : State}
    (step : ∀ fs, (∀ (f : JFrame) (acts : List Action), f.method = m → f.locked = none → f.entered = [] → (doReturn e (T.setTop f) acts v).1 = T.setFrames fs) → Steps p.tables e below t (T.setFrames fs)) : own_Ends p e below (own_Post s Q kc ks) t := by
  obtain ⟨fs, hr, hrun, hended, hW, hsame⟩ := X.leave (v := v) hv hlocks
  exact ⟨_, _, step fs hr, hrun, hended, v, locs, rfl, hq, ⟨_, rfl⟩, hW, hsame.mono hc hs⟩
theorem own_retN (X : Stand p l e R s m args below meth c T locs cells slots) (hx : p.tables.exec = Jvm.exec) (hlocks : meth.locks = false) {t : FieldType} (hret : meth.sig.returnType = some t) (ht : t = .boolean ∨ t = .byte ∨ t = .char ∨ t = .short) {pc : Nat} {Ls : Array Slot} {z : Int32} {rest : List Value} (hd : decode c.code pc = .ok (.ireturn, 1)) {Q : Option Value → Heap → List Loc → Prop} {kc ks : Nat} (hc : cells ≤ kc) (hs : slots ≤ ks) (hn : nar t z = z) (hq : Q (some (.int z)) T.heap locs) :
    own_Ends p e below (own_Post s Q kc ks) (T.setTop (mkF m pc Ls (.int z :: rest))) :=
  own_leave X hlocks (v := some (.int (nar t z))) (fun h => by rw [hret] at h; cases h) hc hs (by rw [hn]; exact hq) (fun fs hr => retN X hx hret ht hd hr)
theorem own_retI (X : Stand p l e R s m args below meth c T locs cells slots) (hx : p.tables.exec = Jvm.exec) (hlocks : meth.locks = false) (hret : meth.sig.returnType = some .int) {pc : Nat} {Ls : Array Slot} {z : Int32} {rest : List Value} (hd : decode c.code pc = .ok (.ireturn, 1)) {Q : Option Value → Heap → List Loc → Prop} {kc ks : Nat} (hc : cells ≤ kc) (hs : slots ≤ ks) (hq : Q (some (.int z)) T.heap locs) :
    own_Ends p e below (own_Post s Q kc ks) (T.setTop (mkF m pc Ls (.int z :: rest))) :=
  own_leave X hlocks (v := some (.int z)) (fun h => by rw [hret] at h; cases h) hc hs hq (fun fs hr => retOut X hx hret (w := .int z) rfl (Or.inl ⟨rfl, Or.inl rfl, z, rfl⟩) hd hr)
theorem own_retJ (X : Stand p l e R s m args below meth c T locs cells slots) (hx : p.tables.exec = Jvm.exec) (hlocks : meth.locks = false) (hret : meth.sig.returnType = some .long) {pc : Nat} {Ls : Array Slot} {z : Int64} {rest : List Value} (hd : decode c.code pc = .ok (.lreturn, 1)) {Q : Option Value → Heap → List Loc → Prop} {kc ks : Nat} (hc : cells ≤ kc) (hs : slots ≤ ks) (hq : Q (some (.long z)) T.heap locs) :
    own_Ends p e below (own_Post s Q kc ks) (T.setTop (mkF m pc Ls (.long z :: rest))) :=
  own_leave X hlocks (v := some (.long z)) (fun h => by rw [hret] at h; cases h) hc hs hq (fun fs hr => retOut X hx hret (w := .long z) rfl (Or.inr (Or.inl ⟨rfl, rfl, z, rfl⟩)) hd hr)
theorem own_narR {t : FieldType} (ht : t.isReference = true) {w : Value} (hw : w.isRef = true) : narrow t w = w := by cases t <;> first | (cases w <;> first | rfl | cases hw) | cases ht
theorem own_retA (X : Stand p l e R s m args below meth c T locs cells slots) (hx : p.tables.exec = Jvm.exec) (hlocks : meth.locks = false) {t : FieldType} (hret : meth.sig.returnType = some t) (ht : t.isReference = true) {pc : Nat} {Ls : Array Slot} {w : Value} (hw : w.isRef = true) {rest : List Value} (hd : decode c.code pc = .ok (.areturn, 1)) {Q : Option Value → Heap → List Loc → Prop} {kc ks : Nat} (hc : cells ≤ kc) (hs : slots ≤ ks) (hq : Q (some w) T.heap locs) :
    own_Ends p e below (own_Post s Q kc ks) (T.setTop (mkF m pc Ls (w :: rest))) :=
  own_leave X hlocks (v := some w) (fun h => by rw [hret] at h; cases h) hc hs hq (fun fs hr => retOut X hx hret (own_narR ht hw) (Or.inr (Or.inr (Or.inr (Or.inr ⟨rfl, ht, hw⟩)))) hd hr)
theorem own_ret (X : Stand p l e R s m args below meth c T locs cells slots) (hx : p.tables.exec = Jvm.exec) (hlocks : meth.locks = false) (hret : meth.sig.returnType = none) {pc : Nat} {Ls : Array Slot} (hd : decode c.code pc = .ok (.return_, 1)) {Q : Option Value → Heap → List Loc → Prop} {kc ks : Nat} (hc : cells ≤ kc) (hs : slots ≤ ks) (hq : Q none T.heap locs) :
    own_Ends p e below (own_Post s Q kc ks) (T.setTop (mkF m pc Ls [])) :=
  own_leave X hlocks (v := none) (fun _ => rfl) hc hs hq (fun fs hr => X.returnOut hx hret hd hr)
end OwnKit
section OwnKitH
variable {p : Program} {l : Launch} {e : Env} {R : Room} {s : State} {m : MethodId} {args : Array Value} {below : List Frame} {meth : Method} {c : Code} {T : State} {locs : List Loc} {cells slots : Nat} {Z : State} {a0 : Array Value} {h : Heap} {Φ : Outcome → State → Prop} {vm0 : Vm} {EL : List (String × Nat)} {h0 : Heap}
def own_H (Z : State) (EL : List (String × Nat)) (s : State) (h0 : Heap) (vm0 : Vm) (h : Heap) : Prop := s.heap = h0 ∧ (∃ k0, s.Since vm0 k0 ∧ k0 ≤ h.size) ∧ CHr Z EL s.vm h0 vm0 h
theorem own_H.ext {h' : Heap} (H : own_H Z EL s h0 vm0 h) (E : Ext h h') : own_H Z EL s h0 vm0 h' := ⟨H.1, by obtain ⟨k, h1, h2⟩ := H.2.1; exact ⟨k, h1, Nat.le_trans h2 E.1⟩, H.2.2.trans (CHr.ext E H.2.2.1)⟩
theorem own_H.wr {h' : Heap} {a : Addr} {sl : Nat} {v : Value} (H : own_H Z EL s h0 vm0 h) (W : Wr h h' a sl v) (S : Safe Z EL vm0 h a) : own_H Z EL s h0 vm0 h' := ⟨H.1, by obtain ⟨k, h1, h2⟩ := H.2.1; exact ⟨k, h1, by rw [W.size]; exact h2⟩, H.2.2.trans (CHr.wr W S H.2.2.1)⟩
theorem own_H.keep {h' : Heap} {ws : List Addr} (H : own_H Z EL s h0 vm0 h) (K : Keep h h' ws) (S : ∀ x ∈ ws, Safe Z EL vm0 h x) : own_H Z EL s h0 vm0 h' := ⟨H.1, by obtain ⟨k, h1, h2⟩ := H.2.1; exact ⟨k, h1, Nat.le_trans h2 K.1⟩, H.2.2.trans (CHr.keep K S H.2.2.1)⟩
theorem own_H.ch (H : own_H Z EL s h0 vm0 h) : CHv Z EL vm0 h := H.2.2.1
theorem own_sfE {h' : Heap} {y : Addr} (S : Safe Z EL vm0 h y) (E : Ext h h') (H : own_H Z EL s h0 vm0 h) : Safe Z EL vm0 h' y := Safe.ext E H.ch S
theorem own_sfN {h' : Heap} {y : Addr} (q : y = h.size) (E : Ext h h') (H : own_H Z EL s h0 vm0 h) : Safe Z EL vm0 h' y := Safe.ext E H.ch (Safe.new (Nat.le_of_eq q.symm))
theorem own_sfW {h' : Heap} {y a : Addr} {sl : Nat} {v : Value} (S : Safe Z EL vm0 h y) (W : Wr h h' a sl v) (Sa : Safe Z EL vm0 h a) (H : own_H Z EL s h0 vm0 h) : Safe Z EL vm0 h' y := Safe.wr W Sa H.ch S
theorem own_sfK {h' : Heap} {y : Addr} {ws : List Addr} (S : Safe Z EL vm0 h y) (K : Keep h h' ws) (Sw : ∀ x ∈ ws, Safe Z EL vm0 h x) (H : own_H Z EL s h0 vm0 h) : Safe Z EL vm0 h' y := Safe.keep K Sw H.ch S
def own_PostH (Z : State) (EL : List (String × Nat)) (s : State) (Q : Option Value → Heap → List Loc → Prop) (kc ks : Nat) (o : Outcome) (U : State) : Prop := ∃ v L, o = .returned v ∧ Q v U.heap L ∧ CHr Z EL s.vm s.heap U.vm U.heap ∧ ReturnedEndW s o U L kc ks
def own_MetH (l : Launch) (y : MethodName) (bytes : ByteArray) (maxL : Nat) (ret : Option FieldType) (rm : Room) (Z : State) (EL : List (String × Nat)) (as' : Array Value) (h0 : Heap) (Q : Option Value → Heap → List Loc → Prop) : Prop :=
  ∀ ws : List Jvm.Cond, MetFree l y (head1 (Jvm.Cond.code y bytes maxL ret :: ws) rm) (fun a U => a = as' ∧ Z.Warmed39 U.vm ∧ U.heap = h0 ∧ CHv Z EL U.vm h0) (fun _ _ _ _ _ => True) (fun _ U o U' => ∃ v L, o = .returned v ∧ Q v U'.heap L ∧ CHr Z EL U.vm U.heap U'.vm U'.heap ∧ ReturnedEndW U o U' L rm.cells rm.slots)
theorem own_metH {y : MethodName} {bytes : ByteArray} {maxL : Nat} {ret : Option FieldType} {rm : Room} {as' : Array Value} {Q : Option Value → Heap → List Loc → Prop} (hp : plainFor y = true)
    (body : ∀ (p : Program) (e : Env) (s : State) (m : MethodId) (below : List Frame) (meth : Method) (c : Code) (T : State), p.tables.exec = Jvm.exec → c.code = bytes → c.maxLocals = maxL → Z.Warmed39 (s.setVm s.vm).vm → (s.setVm s.vm).vm.findClass y.cls = some m.cls → meth.name = y.name → meth.sig.returnType = ret → meth.locks = false →
      Stand p l e rm (s.setVm s.vm) m as' below meth c T [] 0 0 → T.heap = h0 → s.heap = h0 → own_H Z EL s h0 s.vm h0 → own_Ends p e below (own_PostH Z EL s Q rm.cells rm.slots) (T.setTop (entryFrame m as' maxL))) : own_MetH l y bytes maxL ret rm Z EL as' h0 Q := by
  intro ws
  refine MetFree.of_bodySF hp hisR ?_
  intro p e s m args below meth c s₁ Bd hml0 hP hK
  obtain ⟨rfl, hZ, hh, hC⟩ := hP
  exact body p e s m below meth c s₁ Bd.exec Bd.bytes hml0 hZ (findClass_of_methodNamed Bd.named) (name_of_methodNamed Bd.named Bd.method).1 Bd.returns (BodyLoose.notSynchronized Bd) (Stand.of_body Bd) (by rw [← hh, Bd.state]; rfl) hh ⟨hh, ⟨0, ⟨State.Warmed39.refl s, (State.WarmedH.refl s).no_new_pair 0⟩, Nat.zero_le _⟩, CHr.refl hC⟩
/-- a plain contract serves where an H one is asked -/
theorem own_leaveH (X : Stand p l e R (s.setVm vm0) m args below meth c T locs cells slots) (hlocks : meth.locks = false) {v : Option Value} (hv : meth.sig.returnType = none → v = none) (hZ : Z.Warmed39 (s.setVm vm0).vm) (eT : T.heap = h) (HH : own_H Z EL s h0 vm0 h) (hEL : EW Z a0 EL) {Q : Option Value → Heap → List Loc → Prop} {kc ks : Nat} (hc : cells ≤ kc) (hs : slots ≤ ks) (hq : Q v T.heap locs) {t : State}
    (step : ∀ fs, (∀ (f : JFrame) (acts : List Action), f.method = m → f.locked = none → f.entered = [] → (doReturn e (T.setTop f) acts v).1 = T.setFrames fs) → Steps p.tables e below t (T.setFrames fs)) : own_Ends p e below (own_PostH Z EL s Q kc ks) t := by
  obtain ⟨hh, ⟨k0, hS, hk⟩, hC⟩ := HH
  obtain ⟨fs, hr, hrun, hended, hE⟩ := X.leaveW hS (by rw [eT]; exact hk) (v := v) hv hlocks
  subst hh eT
  have A := hC.trans (CHv.at X hZ hEL hC.1)
  exact ⟨_, _, step fs hr, hrun, hended, v, locs, rfl, hq, A, hE.1, hE.2.1, hE.2.2.1, hE.2.2.2.mono hc hs⟩
theorem own_retNH (X : Stand p l e R (s.setVm vm0) m args below meth c T locs cells slots) (hx : p.tables.exec = Jvm.exec) (hZ : Z.Warmed39 (s.setVm vm0).vm) (eT : T.heap = h) (HH : own_H Z EL s h0 vm0 h) (hEL : EW Z a0 EL) (hlocks : meth.locks = false) {t : FieldType} (hret : meth.sig.returnType = some t) (ht : t = .boolean ∨ t = .byte ∨ t = .char ∨ t = .short) {pc : Nat} {Ls : Array Slot} {z : Int32} {rest : List Value} (hd : decode c.code pc = .ok (.ireturn, 1)) {Q : Option Value → Heap → List Loc → Prop} {kc ks : Nat} (hc : cells ≤ kc) (hs : slots ≤ ks) (hn : nar t z = z) (hq : Q (some (.int z)) T.heap locs) :
    own_Ends p e below (own_PostH Z EL s Q kc ks) (T.setTop (mkF m pc Ls (.int z :: rest))) :=
  own_leaveH X hlocks (v := some (.int (nar t z))) (fun h => by rw [hret] at h; cases h) hZ eT HH hEL hc hs (by rw [hn]; exact hq) (fun fs hr => retN X hx hret ht hd hr)
theorem own_retIH (X : Stand p l e R (s.setVm vm0) m args below meth c T locs cells slots) (hx : p.tables.exec = Jvm.exec) (hZ : Z.Warmed39 (s.setVm vm0).vm) (eT : T.heap = h) (HH : own_H Z EL s h0 vm0 h) (hEL : EW Z a0 EL) (hlocks : meth.locks = false) (hret : meth.sig.returnType = some .int) {pc : Nat} {Ls : Array Slot} {z : Int32} {rest : List Value} (hd : decode c.code pc = .ok (.ireturn, 1)) {Q : Option Value → Heap → List Loc → Prop} {kc ks : Nat} (hc : cells ≤ kc) (hs : slots ≤ ks) (hq : Q (some (.int z)) T.heap locs) :
    own_Ends p e below (own_PostH Z EL s Q kc ks) (T.setTop (mkF m pc Ls (.int z :: rest))) :=
  own_leaveH X hlocks (v := some (.int z)) (fun h => by rw [hret] at h; cases h) hZ eT HH hEL hc hs hq (fun fs hr => retOut X hx hret (w := .int z) rfl (Or.inl ⟨rfl, Or.inl rfl, z, rfl⟩) hd hr)
theorem own_retJH (X : Stand p l e R (s.setVm vm0) m args below meth c T locs cells slots) (hx : p.tables.exec = Jvm.exec) (hZ : Z.Warmed39 (s.setVm vm0).vm) (eT : T.heap = h) (HH : own_H Z EL s h0 vm0 h) (hEL : EW Z a0 EL) (hlocks : meth.locks = false) (hret : meth.sig.returnType = some .long) {pc : Nat} {Ls : Array Slot} {z : Int64} {rest : List Value} (hd : decode c.code pc = .ok (.lreturn, 1)) {Q : Option Value → Heap → List Loc → Prop} {kc ks : Nat} (hc : cells ≤ kc) (hs : slots ≤ ks) (hq : Q (some (.long z)) T.heap locs) :
    own_Ends p e below (own_PostH Z EL s Q kc ks) (T.setTop (mkF m pc Ls (.long z :: rest))) :=
  own_leaveH X hlocks (v := some (.long z)) (fun h => by rw [hret] at h; cases h) hZ eT HH hEL hc hs hq (fun fs hr => retOut X hx hret (w := .long z) rfl (Or.inr (Or.inl ⟨rfl, rfl, z, rfl⟩)) hd hr)
theorem own_retAH (X : Stand p l e R (s.setVm vm0) m args below meth c T locs cells slots) (hx : p.tables.exec = Jvm.exec) (hZ : Z.Warmed39 (s.setVm vm0).vm) (eT : T.heap = h) (HH : own_H Z EL s h0 vm0 h) (hEL : EW Z a0 EL) (hlocks : meth.locks = false) {t : FieldType} (hret : meth.sig.returnType = some t) (ht : t.isReference = true) {pc : Nat} {Ls : Array Slot} {w : Value} (hw : w.isRef = true) {rest : List Value} (hd : decode c.code pc = .ok (.areturn, 1)) {Q : Option Value → Heap → List Loc → Prop} {kc ks : Nat} (hc : cells ≤ kc) (hs : slots ≤ ks) (hq : Q (some w) T.heap locs) :
    own_Ends p e below (own_PostH Z EL s Q kc ks) (T.setTop (mkF m pc Ls (w :: rest))) :=
  own_leaveH X hlocks (v := some w) (fun h => by rw [hret] at h; cases h) hZ eT HH hEL hc hs hq (fun fs hr => retOut X hx hret (own_narR ht hw) (Or.inr (Or.inr (Or.inr (Or.inr ⟨rfl, ht, hw⟩)))) hd hr)
theorem own_retH (X : Stand p l e R (s.setVm vm0) m args below meth c T locs cells slots) (hx : p.tables.exec = Jvm.exec) (hZ : Z.Warmed39 (s.setVm vm0).vm) (eT : T.heap = h) (HH : own_H Z EL s h0 vm0 h) (hEL : EW Z a0 EL) (hlocks : meth.locks = false) (hret : meth.sig.returnType = none) {pc : Nat} {Ls : Array Slot} (hd : decode c.code pc = .ok (.return_, 1)) {Q : Option Value → Heap → List Loc → Prop} {kc ks : Nat} (hc : cells ≤ kc) (hs : slots ≤ ks) (hq : Q none T.heap locs) :
    own_Ends p e below (own_PostH Z EL s Q kc ks) (T.setTop (mkF m pc Ls [])) :=
  own_leaveH X hlocks (v := none) (fun _ => rfl) hZ eT HH hEL hc hs hq (fun fs hr => X.returnOut hx hret hd hr)
theorem own_staticH (X : Stand p l e R (s.setVm vm0) m args below meth c T locs cells slots) (hx : p.tables.exec = Jvm.exec) (hZ : Z.Warmed39 (s.setVm vm0).vm) {own : String} {index : Nat} {y : MethodName} {bytes : ByteArray} {maxL : Nat} {ret : Option FieldType} {rm : Room} {Q : Option Value → Heap → List Loc → Prop} (hown : (s.setVm vm0).vm.findClass own = some m.cls) (w1 : (Jvm.Cond.methodLink own index y).before a0 Z = true) (w2 : (Jvm.Cond.static y).before a0 Z = true) (w3 : (Jvm.Cond.initialized y.cls).before a0 Z = true) (w4 : (Jvm.Cond.code y bytes maxL ret).before a0 Z = true) (hy : y.cls ≠ "java/lang/invoke/MethodHandle" ∧ y.cls ≠ "java/lang/invoke/VarHandle") (HH : own_H Z EL s h0 vm0 h) (hEL : EW Z a0 EL) (eT : T.heap = h) (hf : rm.frames + 1 ≤ R.frames) {W : Nat} (hl : W + (maxL + 11) + rm.locals ≤ R.locals) (hc : cells + rm.cells ≤ R.cells) (hs : slots + rm.slots ≤ R.slots) {pc pc' : Nat} {Ls : Array Slot} (argsL rest : List Value) {st : List Value} (hsize : Ls.size = c.maxLocals) (hM : own_MetH l y bytes maxL ret rm Z EL argsL.toArray h Q)
    {ps : List FieldType} {r : Option FieldType} (hpd : parseMethodDescriptor y.desc = some ⟨ps, r⟩) (hlen : argsL.length = ps.length) (hst : st = argsL.reverse ++ rest) (hW : (rest.map fun v => v.category).sum = W) (hd : decode c.code pc = .ok (.invokestatic index, 3)) (hp : pc + 3 = pc') (k : ∀ v T' L, Stand p l e R (s.setVm T'.vm) m args below meth c T' (locs ++ L) (cells + rm.cells) (slots + rm.slots) → Q v T'.heap L → Z.Warmed39 (s.setVm T'.vm).vm → (s.setVm T'.vm).vm.findClass own = some m.cls → own_H Z EL s h0 T'.vm T'.heap → CHr Z EL vm0 h T'.vm T'.heap → own_Ends p e below Φ (T'.setTop (mkF m pc' Ls (v.toList ++ rest)))) : own_Ends p e below Φ (T.setTop (mkF m pc Ls st)) := by
  subst hp
  obtain ⟨v, _, ⟨T', L', k', n'⟩, -, X', hS', hgr, ⟨Lc, hQ, e1, e2, e3, hC⟩, st'⟩ :=  callSS X hx (y := y) hown (mvT hZ w1) (mvT hZ w2) (mvT hZ w3) (mvT hZ w4) hy (backOfSH (s := s) (vm0 := vm0) (W := W) (hM []) hZ w4 w3 hf hl hEL HH.ch) (g := mkF m pc Ls st) rfl hsize (argsL := argsL) (rest := rest) (lenOf hpd hlen) hst (by rw [← hW]; show 2 * 0 + _ ≤ _; omega) hd (fun _ _ => ⟨rfl, eT, hc, hs⟩)
  dsimp only [Pt.U, Pt.locs, Pt.cells, Pt.slots] at X' hS' hgr e1 e2 e3 hC st' hQ
  subst e1 e2 e3
  obtain ⟨hh, ⟨k0, hS, hk⟩, hC0⟩ := HH
  subst eT
  exact own_thru st' (k v T' Lc X' hQ (State.Warmed39.trans (t := s.setVm vm0) hZ hS'.1) (by rw [show (s.setVm T'.vm).vm = T'.vm from rfl, hS'.1.alike.findClass]; exact hown) ⟨hh, ⟨_, hS.trans hS' (Nat.le_trans hk hgr), Nat.le_refl _⟩, hC0.trans hC⟩ hC)
theorem own_specialH (X : Stand p l e R (s.setVm vm0) m args below meth c T locs cells slots) (hx : p.tables.exec = Jvm.exec) (hZ : Z.Warmed39 (s.setVm vm0).vm) {own : String} {index : Nat} {y : MethodName} {bytes : ByteArray} {maxL : Nat} {rm : Room} {Q : Option Value → Heap → List Loc → Prop} (hy1 : y.name = "<init>") (hown : (s.setVm vm0).vm.findClass own = some m.cls) (w1 : (Jvm.Cond.methodLink own index y).before a0 Z = true) (w2 : (Jvm.Cond.instanceMethod y).before a0 Z = true) (w3 : (Jvm.Cond.initialized y.cls).before a0 Z = true) (w4 : (Jvm.Cond.code y bytes maxL none).before a0 Z = true) (hy : y.cls ≠ "java/lang/invoke/MethodHandle" ∧ y.cls ≠ "java/lang/invoke/VarHandle") (HH : own_H Z EL s h0 vm0 h) (hEL : EW Z a0 EL) (eT : T.heap = h) (hf : rm.frames + 1 ≤ R.frames) {W : Nat} (hl : W + (maxL + 11) + rm.locals ≤ R.locals) (hc : cells + rm.cells ≤ R.cells) (hs : slots + rm.slots ≤ R.slots) {pc pc' : Nat} {Ls : Array Slot} (argsL rest : List Value) {st : List Value} (hsize : Ls.size = c.maxLocals) {a : Addr} (hM : own_MetH l y bytes maxL none rm Z EL (.ref a :: argsL).toArray h Q)
    {ps : List FieldType} {r : Option FieldType} (hpd : parseMethodDescriptor y.desc = some ⟨ps, r⟩) (hlen : argsL.length = ps.length) (hst : st = argsL.reverse ++ .ref a :: rest) (hW : (rest.map fun v => v.category).sum = W) (hd : decode c.code pc = .ok (.invokespecial index, 3)) (hp : pc + 3 = pc') (k : ∀ v T' L, Stand p l e R (s.setVm T'.vm) m args below meth c T' (locs ++ L) (cells + rm.cells) (slots + rm.slots) → Q v T'.heap L → Z.Warmed39 (s.setVm T'.vm).vm → (s.setVm T'.vm).vm.findClass own = some m.cls → own_H Z EL s h0 T'.vm T'.heap → CHr Z EL vm0 h T'.vm T'.heap → own_Ends p e below Φ (T'.setTop (mkF m pc' Ls (v.toList ++ rest)))) : own_Ends p e below Φ (T.setTop (mkF m pc Ls st)) := by
  subst hp
  obtain ⟨v, _, ⟨T', L', k', n'⟩, -, X', hS', hgr, ⟨Lc, hQ, e1, e2, e3, hC⟩, st'⟩ :=  X.specialBackS hx (y := y) hy1 hown (mvT hZ w1) (mvT hZ w2) (mvT hZ w4) hy (backOfSH (s := s) (vm0 := vm0) (W := W) (hM []) hZ w4 w3 hf hl hEL HH.ch) (g := mkF m pc Ls st) rfl hsize (Steps.refl _) (a := a) (argsL := argsL) (rest := rest) (lenOf hpd hlen) hst (by rw [← hW]; show 2 * 0 + _ ≤ _; omega) hd (fun _ _ => ⟨rfl, eT, hc, hs⟩)
  dsimp only [Pt.U, Pt.locs, Pt.cells, Pt.slots] at X' hS' hgr e1 e2 e3 hC st' hQ
  subst e1 e2 e3
  obtain ⟨hh, ⟨k0, hS, hk⟩, hC0⟩ := HH
  subst eT
  exact own_thru st' (k v T' Lc X' hQ (State.Warmed39.trans (t := s.setVm vm0) hZ hS'.1) (by rw [show (s.setVm T'.vm).vm = T'.vm from rfl, hS'.1.alike.findClass]; exact hown) ⟨hh, ⟨_, hS.trans hS' (Nat.le_trans hk hgr), Nat.le_refl _⟩, hC0.trans hC⟩ hC)
theorem own_virtualH (X : Stand p l e R (s.setVm vm0) m args below meth c T locs cells slots) (hx : p.tables.exec = Jvm.exec) (hZ : Z.Warmed39 (s.setVm vm0).vm) {own C : String} {index : Nat} {y z : MethodName} {bytes : ByteArray} {maxL : Nat} {ret : Option FieldType} {rm : Room} {Q : Option Value → Heap → List Loc → Prop} (hown : (s.setVm vm0).vm.findClass own = some m.cls) (w1 : (Jvm.Cond.methodLink own index y).before a0 Z = true) (w2 : (Jvm.Cond.declares y).before a0 Z = true) (hnf : NotFace (s.setVm vm0) y) (w3 : (Jvm.Cond.selects C y z).before a0 Z = true) (w4 : (Jvm.Cond.instanceMethod z).before a0 Z = true) (w5 : (Jvm.Cond.initialized z.cls).before a0 Z = true) (w6 : (Jvm.Cond.code z bytes maxL ret).before a0 Z = true) (hy : y.cls ≠ "java/lang/invoke/MethodHandle" ∧ y.cls ≠ "java/lang/invoke/VarHandle") (HH : own_H Z EL s h0 vm0 h) (hEL : EW Z a0 EL) (eT : T.heap = h) (hf : rm.frames + 1 ≤ R.frames) {W : Nat} (hl : W + (maxL + 11) + rm.locals ≤ R.locals) (hc : cells + rm.cells ≤ R.cells) (hs : slots + rm.slots ≤ R.slots) {pc pc' : Nat} {Ls : Array Slot} (argsL rest : List Value) {st : List Value} (hsize : Ls.size = c.maxLocals) {a : Addr} (E : Exa Z h a C) (hM : own_MetH l z bytes maxL ret rm Z EL (.ref a :: argsL).toArray h Q)
    {ps : List FieldType} {r : Option FieldType} (hpd : parseMethodDescriptor y.desc = some ⟨ps, r⟩) (hlen : argsL.length = ps.length) (hst : st = argsL.reverse ++ .ref a :: rest) (hW : (rest.map fun v => v.category).sum = W) (hd : decode c.code pc = .ok (.invokevirtual index, 3)) (hp : pc + 3 = pc') (k : ∀ v T' L, Stand p l e R (s.setVm T'.vm) m args below meth c T' (locs ++ L) (cells + rm.cells) (slots + rm.slots) → Q v T'.heap L → Z.Warmed39 (s.setVm T'.vm).vm → (s.setVm T'.vm).vm.findClass own = some m.cls → own_H Z EL s h0 T'.vm T'.heap → CHr Z EL vm0 h T'.vm T'.heap → own_Ends p e below Φ (T'.setTop (mkF m pc' Ls (v.toList ++ rest)))) : own_Ends p e below Φ (T.setTop (mkF m pc Ls st)) := by
  subst hp
  obtain ⟨cq, kq, q1, q2, q3⟩ := isOf hZ eT E
  obtain ⟨v, _, ⟨T', L', k', n'⟩, -, X', hS', hgr, ⟨Lc, hQ, e1, e2, e3, hC⟩, st'⟩ :=  X.virtualBackS hx (y := y) (z := z) hown (mvT hZ w1) (mvT hZ w2) hnf (mvT hZ w3) (mvT hZ w4) hy (backOfSH (s := s) (vm0 := vm0) (W := W) (hM []) hZ w6 w5 hf hl hEL HH.ch) q1 q3 (g := mkF m pc Ls st) rfl hsize (Steps.refl _) (argsL := argsL) (rest := rest) (lenOf hpd hlen) hst (by rw [← hW]; show 2 * 0 + _ ≤ _; omega) hd (fun _ _ => ⟨rfl, eT, hc, hs⟩)
  dsimp only [Pt.U, Pt.locs, Pt.cells, Pt.slots] at X' hS' hgr e1 e2 e3 hC st' hQ
  subst e1 e2 e3
  obtain ⟨hh, ⟨k0, hS, hk⟩, hC0⟩ := HH
  subst eT
  exact own_thru st' (k v T' Lc X' hQ (State.Warmed39.trans (t := s.setVm vm0) hZ hS'.1) (by rw [show (s.setVm T'.vm).vm = T'.vm from rfl, hS'.1.alike.findClass]; exact hown) ⟨hh, ⟨_, hS.trans hS' (Nat.le_trans hk hgr), Nat.le_refl _⟩, hC0.trans hC⟩ hC)
/-- ldc of a String literal, its text read -/
theorem own_ldcS (X : Stand p l e R (s.setVm vm0) m args below meth c T locs cells slots) (hx : p.tables.exec = Jvm.exec) (hZ : Z.Warmed39 (s.setVm vm0).vm) {own text : String} {index : Nat} (hown : (s.setVm vm0).vm.findClass own = some m.cls) (w : (Jvm.Cond.stringLink own index text).before a0 Z = true) (wS : ∀ a ∈ Bundle.stringAtoms, a.before a0 Z = true) (eT : T.heap = h) (HH : own_H Z EL s h0 vm0 h) (hEL : EW Z a0 EL) (hmem : (own, index) ∈ EL)
    {vs : List Value} {z : Int32} (ht : (∀ c ∈ text.toList, c.toNat < 256) ∧ text.toList.map (fun c => Value.int (Jvm.Lit.byteI c.toNat.toUInt16)) = vs) (hz : ¬ z < 0) (hl : z.toNatClampNeg = vs.length) {pc pc' : Nat} {Ls : Array Slot} {rest : List Value} (hd : decode c.code pc = .ok (.ldc index, 2)) (n : Nat) (hn : 4 * text.toList.length ≤ n) (hbig : n ≤ 536870912) (hc : cells + 2 ≤ R.cells) (hl' : slots + (n + 4) ≤ R.slots) (hp : pc + 2 = pc')
    (k : ∀ (a : Addr) (T' : State) (h' : Heap) (b : Addr) (kk : ClassId), Stand p l e R (s.setVm T'.vm) m args below meth c T' locs (cells + 2) (slots + (n + 4)) → T'.heap = h' → Ext h h' → Z.Warmed39 (s.setVm T'.vm).vm → (s.setVm T'.vm).vm.findClass own = some m.cls → own_H Z EL s h0 T'.vm h' → CHr Z EL vm0 h T'.vm h' → Exa Z h' a "java/lang/String" → Fld Z h' a "java/lang/String" "coder" "B" (.int 0) → Fld Z h' a "java/lang/String" "value" "[B" (.ref b) → Arv Z h' b kk .byte z vs (.int 0) → (∀ x, Safe Z EL T'.vm h' x → x ≠ a ∧ x ≠ b) → own_Ends p e below Φ (T'.setTop (mkF m pc' Ls (.ref a :: rest)))) : own_Ends p e below Φ (T.setTop (mkF m pc Ls rest)) := by
  subst hp
  obtain ⟨hh, ⟨k0, hS, hk⟩, hC0⟩ := HH
  obtain ⟨a, T', h', k1, b, kk, X', e', E', hS', hk', hZ', hown', A', c', v', V', -, -, hC, -, hne, st⟩ := ldcCH X hx hZ hown w wS eT hS hk hEL hmem hC0.1 ht hz hl (g := mkF m pc Ls rest) rfl hd hn hbig hc hl'
  exact own_via st (k a T' h' b kk X' e' E' hZ' hown' ⟨hh, ⟨k1, hS', hk'⟩, hC0.trans hC⟩ hC A' c' v' V' hne)
theorem own_retDH (X : Stand p l e R (s.setVm vm0) m args below meth c T locs cells slots) (hx : p.tables.exec = Jvm.exec) (hZ : Z.Warmed39 (s.setVm vm0).vm) (eT : T.heap = h) (HH : own_H Z EL s h0 vm0 h) (hEL : EW Z a0 EL) (hlocks : meth.locks = false) (hret : meth.sig.returnType = some .double) {pc : Nat} {Ls : Array Slot} {z : UInt64} {rest : List Value} (hd : decode c.code pc = .ok (.dreturn, 1)) {Q : Option Value → Heap → List Loc → Prop} {kc ks : Nat} (hc : cells ≤ kc) (hs : slots ≤ ks) (hq : Q (some (.double z)) T.heap locs) :
    own_Ends p e below (own_PostH Z EL s Q kc ks) (T.setTop (mkF m pc Ls (.double z :: rest))) :=
  own_leaveH X hlocks (v := some (.double z)) (fun h => by rw [hret] at h; cases h) hZ eT HH hEL hc hs hq (fun fs hr => retOut X hx hret (w := .double z) rfl (Or.inr (Or.inr (Or.inl ⟨rfl, rfl, z, rfl⟩))) hd hr)
end OwnKitH
section OwnKitB
variable {p : Program} {l : Launch} {e : Env} {R : Room} {s : State} {m : MethodId} {args : Array Value} {below : List Frame} {meth : Method} {c : Code} {T : State} {locs : List Loc} {cells slots : Nat} {Z : State} {a0 : Array Value} {h : Heap} {Φ : Outcome → State → Prop}
theorem own_staticB (X : Stand p l e R s m args below meth c T locs cells slots) (hx : p.tables.exec = Jvm.exec) (hZ : Z.Warmed39 s.vm) {own : String} {index : Nat} {y : MethodName} {bytes : ByteArray} {maxL : Nat} {ret : Option FieldType} (hown : s.vm.findClass own = some m.cls) (w1 : (Jvm.Cond.methodLink own index y).before a0 Z = true) (w2 : (Jvm.Cond.static y).before a0 Z = true) (w3 : (Jvm.Cond.initialized y.cls).before a0 Z = true) (w4 : (Jvm.Cond.code y bytes maxL ret).before a0 Z = true) (hy : y.cls ≠ "java/lang/invoke/MethodHandle" ∧ y.cls ≠ "java/lang/invoke/VarHandle") {ce sl : Nat} (eT : T.heap = h) {W : Nat} (hc : cells + ce ≤ R.cells) (hs : slots + sl ≤ R.slots) {pc pc' : Nat} {Ls : Array Slot} (argsL rest : List Value) {st : List Value} (hsize : Ls.size = c.maxLocals) (Q : Option Value → Heap → List Loc → Prop) (hK : Back l R p e below s args y 3 W (fun P a' => a' = argsL.toArray ∧ P.U.heap = h ∧ P.cells + ce ≤ R.cells ∧ P.slots + sl ≤ R.slots) (fun P _ v B => ∃ L, Q v B.U.heap L ∧ B.locs = P.locs ++ L ∧ B.cells = P.cells + ce ∧ B.slots = P.slots + sl))
    {ps : List FieldType} {r : Option FieldType} (hpd : parseMethodDescriptor y.desc = some ⟨ps, r⟩) (hlen : argsL.length = ps.length) (hst : st = argsL.reverse ++ rest) (hW : (rest.map fun v => v.category).sum = W) (hd : decode c.code pc = .ok (.invokestatic index, 3)) (hp : pc + 3 = pc') (k : ∀ v T' L, Stand p l e R s m args below meth c T' (locs ++ L) (cells + ce) (slots + sl) → Q v T'.heap L → own_Ends p e below Φ (T'.setTop (mkF m pc' Ls (v.toList ++ rest)))) : own_Ends p e below Φ (T.setTop (mkF m pc Ls st)) := by
  subst hp
  obtain ⟨v, _, ⟨T', L', k', n'⟩, -, X', ⟨Lc, hQ, e1, e2, e3⟩, st'⟩ :=  Jvm.LawKit.callS X hx (y := y) hown (mvT hZ w1) (mvT hZ w2) (mvT hZ w3) (mvT hZ w4) hy hK (g := mkF m pc Ls st) rfl hsize (argsL := argsL) (rest := rest) (lenOf hpd hlen) hst (by rw [← hW]; show 2 * 0 + _ ≤ _; omega) hd (fun _ _ => ⟨rfl, eT, hc, hs⟩)
  dsimp only [Pt.U, Pt.locs, Pt.cells, Pt.slots] at X' e1 e2 e3 st' hQ
  subst e1 e2 e3
  exact own_via st' (k v T' Lc X' hQ)
theorem own_specialB (X : Stand p l e R s m args below meth c T locs cells slots) (hx : p.tables.exec = Jvm.exec) (hZ : Z.Warmed39 s.vm) {own : String} {index : Nat} {y : MethodName} {bytes : ByteArray} {maxL : Nat} (hy1 : y.name = "<init>") (hown : s.vm.findClass own = some m.cls) (w1 : (Jvm.Cond.methodLink own index y).before a0 Z = true) (w2 : (Jvm.Cond.instanceMethod y).before a0 Z = true) (w4 : (Jvm.Cond.code y bytes maxL none).before a0 Z = true) (hy : y.cls ≠ "java/lang/invoke/MethodHandle" ∧ y.cls ≠ "java/lang/invoke/VarHandle") {ce sl : Nat} (eT : T.heap = h) {W : Nat} (hc : cells + ce ≤ R.cells) (hs : slots + sl ≤ R.slots) {pc pc' : Nat} {Ls : Array Slot} (argsL rest : List Value) {st : List Value} (hsize : Ls.size = c.maxLocals) {a : Addr} (Q : Option Value → Heap → List Loc → Prop) (hK : Back l R p e below s args y 3 W (fun P a' => a' = (.ref a :: argsL).toArray ∧ P.U.heap = h ∧ P.cells + ce ≤ R.cells ∧ P.slots + sl ≤ R.slots) (fun P _ v B => ∃ L, Q v B.U.heap L ∧ B.locs = P.locs ++ L ∧ B.cells = P.cells + ce ∧ B.slots = P.slots + sl))
    {ps : List FieldType} {r : Option FieldType} (hpd : parseMethodDescriptor y.desc = some ⟨ps, r⟩) (hlen : argsL.length = ps.length) (hst : st = argsL.reverse ++ .ref a :: rest) (hW : (rest.map fun v => v.category).sum = W) (hd : decode c.code pc = .ok (.invokespecial index, 3)) (hp : pc + 3 = pc') (k : ∀ v T' L, Stand p l e R s m args below meth c T' (locs ++ L) (cells + ce) (slots + sl) → Q v T'.heap L → own_Ends p e below Φ (T'.setTop (mkF m pc' Ls (v.toList ++ rest)))) : own_Ends p e below Φ (T.setTop (mkF m pc Ls st)) := by
  subst hp
  obtain ⟨v, _, ⟨T', L', k', n'⟩, -, X', ⟨Lc, hQ, e1, e2, e3⟩, st'⟩ :=  X.specialBack hx (y := y) hy1 hown (mvT hZ w1) (mvT hZ w2) (mvT hZ w4) hy hK (g := mkF m pc Ls st) rfl hsize (Steps.refl _) (a := a) (argsL := argsL) (rest := rest) (lenOf hpd hlen) hst (by rw [← hW]; show 2 * 0 + _ ≤ _; omega) hd (fun _ _ => ⟨rfl, eT, hc, hs⟩)
  dsimp only [Pt.U, Pt.locs, Pt.cells, Pt.slots] at X' e1 e2 e3 st' hQ
  subst e1 e2 e3
  exact own_thru st' (k v T' Lc X' hQ)
theorem own_virtualB (X : Stand p l e R s m args below meth c T locs cells slots) (hx : p.tables.exec = Jvm.exec) (hZ : Z.Warmed39 s.vm) {own C : String} {index : Nat} {y z : MethodName} (hown : s.vm.findClass own = some m.cls) (w1 : (Jvm.Cond.methodLink own index y).before a0 Z = true) (w2 : (Jvm.Cond.declares y).before a0 Z = true) (hnf : NotFace s y) (w3 : (Jvm.Cond.selects C y z).before a0 Z = true) (w4 : (Jvm.Cond.instanceMethod z).before a0 Z = true) (hy : y.cls ≠ "java/lang/invoke/MethodHandle" ∧ y.cls ≠ "java/lang/invoke/VarHandle") {ce sl : Nat} (eT : T.heap = h) {W : Nat} (hc : cells + ce ≤ R.cells) (hs : slots + sl ≤ R.slots) {pc pc' : Nat} {Ls : Array Slot} (argsL rest : List Value) {st : List Value} (hsize : Ls.size = c.maxLocals) {a : Addr} (E : Exa Z h a C) (Q : Option Value → Heap → List Loc → Prop) (hK : Back l R p e below s args z 3 W (fun P a' => a' = (.ref a :: argsL).toArray ∧ P.U.heap = h ∧ P.cells + ce ≤ R.cells ∧ P.slots + sl ≤ R.slots) (fun P _ v B => ∃ L, Q v B.U.heap L ∧ B.locs = P.locs ++ L ∧ B.cells = P.cells + ce ∧ B.slots = P.slots + sl))
    {ps : List FieldType} {r : Option FieldType} (hpd : parseMethodDescriptor y.desc = some ⟨ps, r⟩) (hlen : argsL.length = ps.length) (hst : st = argsL.reverse ++ .ref a :: rest) (hW : (rest.map fun v => v.category).sum = W) (hd : decode c.code pc = .ok (.invokevirtual index, 3)) (hp : pc + 3 = pc') (k : ∀ v T' L, Stand p l e R s m args below meth c T' (locs ++ L) (cells + ce) (slots + sl) → Q v T'.heap L → own_Ends p e below Φ (T'.setTop (mkF m pc' Ls (v.toList ++ rest)))) : own_Ends p e below Φ (T.setTop (mkF m pc Ls st)) := by
  subst hp
  obtain ⟨cq, kq, q1, q2, q3⟩ := isOf hZ eT E
  obtain ⟨v, _, ⟨T', L', k', n'⟩, -, X', ⟨Lc, hQ, e1, e2, e3⟩, st'⟩ :=  X.virtualBack hx (y := y) (z := z) hown (mvT hZ w1) (mvT hZ w2) hnf (mvT hZ w3) (mvT hZ w4) hy hK q1 q3 (g := mkF m pc Ls st) rfl hsize (Steps.refl _) (argsL := argsL) (rest := rest) (lenOf hpd hlen) hst (by rw [← hW]; show 2 * 0 + _ ≤ _; omega) hd (fun _ _ => ⟨rfl, eT, hc, hs⟩)
  dsimp only [Pt.U, Pt.locs, Pt.cells, Pt.slots] at X' e1 e2 e3 st' hQ
  subst e1 e2 e3
  exact own_thru st' (k v T' Lc X' hQ)
theorem own_iface (X : Stand p l e R s m args below meth c T locs cells slots) (hx : p.tables.exec = Jvm.exec) (hZ : Z.Warmed39 s.vm) {own C : String} {index count : Nat} {xi y : MethodName} {bytes : ByteArray} {maxL : Nat} {ret : Option FieldType} {rm : Room} {Q : Option Value → Heap → List Loc → Prop} (hown : s.vm.findClass own = some m.cls) (w1 : (Jvm.Cond.methodLink own index xi).before a0 Z = true) (w2 : (Jvm.Cond.declares xi).before a0 Z = true) (wf : (Jvm.Cond.interfaceMethod xi.cls xi.cls xi.name xi.desc).before args s = true) (w3 : (Jvm.Cond.selects C xi y).before a0 Z = true) (w4 : (Jvm.Cond.instanceMethod y).before a0 Z = true) (wp : (Jvm.Cond.publicMethod y).before a0 Z = true) (wu : (Jvm.Cond.unhidden C xi.name xi.desc).before a0 Z = true) (wc : (Jvm.Cond.castable C xi.cls).before a0 Z = true) (w5 : (Jvm.Cond.initialized y.cls).before a0 Z = true) (w6 : (Jvm.Cond.code y bytes maxL ret).before a0 Z = true) (hy : xi.cls ≠ "java/lang/invoke/MethodHandle" ∧ xi.cls ≠ "java/lang/invoke/VarHandle") (eT : T.heap = h) (hf : rm.frames + 1 ≤ R.frames) {W : Nat} (hl : W + (maxL + 11) + rm.locals ≤ R.locals) (hc : cells + rm.cells ≤ R.cells) (hs : slots + rm.slots ≤ R.slots) {pc pc' : Nat} {Ls : Array Slot} (argsL rest : List Value) {st : List Value} (hsize : Ls.size = c.maxLocals) {a : Addr} (E : Exa Z h a C) (hM : own_Met l y bytes maxL ret rm Z (.ref a :: argsL).toArray h Q)
    {ps : List FieldType} {r : Option FieldType} (hpd : parseMethodDescriptor xi.desc = some ⟨ps, r⟩) (hlen : argsL.length = ps.length) (hst : st = argsL.reverse ++ .ref a :: rest) (hW : (rest.map fun v => v.category).sum = W) (hd : decode c.code pc = .ok (.invokeinterface index count, 5)) (hp : pc + 5 = pc') (k : ∀ v T' L, Stand p l e R s m args below meth c T' (locs ++ L) (cells + rm.cells) (slots + rm.slots) → Q v T'.heap L → own_Ends p e below Φ (T'.setTop (mkF m pc' Ls (v.toList ++ rest)))) : own_Ends p e below Φ (T.setTop (mkF m pc Ls st)) := by
  subst hp
  obtain ⟨cq, kq, q1, q2, q3⟩ := isOf hZ eT E
  obtain ⟨v, _, ⟨T', L', k', n'⟩, -, X', ⟨Lc, hQ, e1, e2, e3⟩, st'⟩ :=  X.interfaceBack hx (xi := xi) (y := y) hown (mvT hZ w1) (mvT hZ w2) wf (mvT hZ w3) (mvT hZ w4) (mvT hZ wp) (mvT hZ wu) (mvT hZ wc) hy (backOf (W := W) (hM []) hZ w6 w5 hf hl) q1 q2 q3 (g := mkF m pc Ls st) rfl hsize (Steps.refl _) (argsL := argsL) (rest := rest) (lenOf hpd hlen) hst (by rw [← hW]; show 2 * 0 + _ ≤ _; omega) hd (fun _ _ => ⟨rfl, eT, hc, hs⟩)
  dsimp only [Pt.U, Pt.locs, Pt.cells, Pt.slots] at X' e1 e2 e3 st' hQ
  subst e1 e2 e3
  exact own_thru st' (k v T' Lc X' hQ)
theorem own_insK {h' : Heap} {a : Addr} {C : String} {b : Bool} {ws : List Addr} (F : Ins Z h a C b) (K : Keep h h' ws) : Ins Z h' a C b := by
  obtain ⟨cell, cT, h1, h2, h3⟩ := F
  obtain ⟨c', q, r1, r2, -⟩ := K.2.2 a cell h1
  exact ⟨c', cT, q, h2, by rw [r1, r2]; exact h3⟩
end OwnKitB
section OwnKitA
variable {p : Program} {l : Launch} {e : Env} {R : Room} {s : State} {m : MethodId} {args : Array Value} {below : List Frame} {meth : Method} {c : Code} {T : State} {locs : List Loc} {cells slots : Nat} {Z : State} {a0 : Array Value} {h : Heap} {Φ : Outcome → State → Prop}
theorem own_newP (X : Stand p l e R s m args below meth c T locs cells slots) (hx : p.tables.exec = Jvm.exec) (hZ : Z.Warmed39 s.vm) {aty : ArrayType} (w : (Jvm.Cond.arrayClass (newarray.typeOf aty)).before a0 Z = true) (eT : T.heap = h) {pc pc' : Nat} {Ls : Array Slot} {rest : List Value} {n : Int32} (hd : decode c.code pc = .ok (.newarray aty, 2)) (hn : ¬ n < 0) (cap : Nat) (hcap : n.toNatClampNeg ≤ cap) (hb : cap * 8 ≤ 536870912) (hc : cells + 1 ≤ R.cells) (hl : slots + cap ≤ R.slots) (hp : pc + 2 = pc')
    (k : ∀ T' h' b kk, Stand p l e R s m args below meth c T' locs (cells + 1) (slots + cap) → T'.heap = h' → b = h.size → Ext h h' → Arv Z h' b kk (newarray.typeOf aty) n [] (defaultValue (newarray.typeOf aty)) → own_Ends p e below Φ (T'.setTop (mkF m pc' Ls (.ref b :: rest)))) : own_Ends p e below Φ (T.setTop (mkF m pc Ls (.int n :: rest))) := by
  subst hp; obtain ⟨T', h', cA, X', e', E', A', st⟩ := newP X hx hZ w eT (g := mkF m pc Ls (.int n :: rest)) rfl hd rfl hn hcap hb hc hl
  exact own_via st (k T' h' _ cA X' e' rfl E' (Arv.new A' hn))
theorem own_stC (X : Stand p l e R s m args below meth c T locs cells slots) (hx : p.tables.exec = Jvm.exec) (hZ : Z.Warmed39 s.vm) (eT : T.heap = h) {a : Addr} {kk : ClassId} {z : Int32} {vs : List Value} {dv : Value} (A : Arv Z h a kk .char z vs dv) {j : Int32} {x : Int32} (hj : ¬ j < 0 ∧ j < z) (i : Nat) (hi : j.toNatClampNeg = i) (hlen : i < vs.length) (hn : nar .char x = x) {n0 : Nat} (N : Fr n0 locs) (g : n0 ≤ a) {pc pc' : Nat} {Ls : Array Slot} {rest : List Value} (hd : decode c.code pc = .ok (.castore, 1)) (hp : pc + 1 = pc')
    (k : ∀ T' h', Stand p l e R s m args below meth c T' (locs ++ [⟨a, j.toNatClampNeg⟩]) cells slots → T'.heap = h' → Wr h h' a j.toNatClampNeg (.int x) → Fr n0 (locs ++ [⟨a, j.toNatClampNeg⟩]) → Arv Z h' a kk .char z (vs.set i (.int x)) dv → own_Ends p e below Φ (T'.setTop (mkF m pc' Ls rest))) : own_Ends p e below Φ (T.setTop (mkF m pc Ls (.int x :: .int j :: .ref a :: rest))) := by
  subst hp; obtain ⟨cl, Ar, q, S, Nn, H, G⟩ := A
  obtain ⟨T', h', X', e', W', st⟩ := Jvm.RoadKit.stC X hx hZ eT Ar (j := j) (x := x) (inb_of S hj) (g := mkF m pc Ls (.int x :: .int j :: .ref a :: rest)) rfl rfl hd
  have W' : Wr h h' a j.toNatClampNeg (.int (nar .char x)) := W'
  have hf := fits_nar_char x
  rw [hn] at W' hf
  exact own_via st (k T' h' X' e' W' (Fr.snoc X' N g) (Arv.set Ar q S Nn H G hf W' i hi hlen))
theorem own_stI (X : Stand p l e R s m args below meth c T locs cells slots) (hx : p.tables.exec = Jvm.exec) (hZ : Z.Warmed39 s.vm) (eT : T.heap = h) {a : Addr} {kk : ClassId} {z : Int32} {vs : List Value} {dv : Value} (A : Arv Z h a kk .int z vs dv) {j : Int32} {x : Int32} (hj : ¬ j < 0 ∧ j < z) (i : Nat) (hi : j.toNatClampNeg = i) (hlen : i < vs.length) {n0 : Nat} (N : Fr n0 locs) (g : n0 ≤ a) {pc pc' : Nat} {Ls : Array Slot} {rest : List Value} (hd : decode c.code pc = .ok (.iastore, 1)) (hp : pc + 1 = pc')
    (k : ∀ T' h', Stand p l e R s m args below meth c T' (locs ++ [⟨a, j.toNatClampNeg⟩]) cells slots → T'.heap = h' → Wr h h' a j.toNatClampNeg (.int x) → Fr n0 (locs ++ [⟨a, j.toNatClampNeg⟩]) → Arv Z h' a kk .int z (vs.set i (.int x)) dv → own_Ends p e below Φ (T'.setTop (mkF m pc' Ls rest))) : own_Ends p e below Φ (T.setTop (mkF m pc Ls (.int x :: .int j :: .ref a :: rest))) := by
  subst hp; obtain ⟨cl, Ar, q, S, Nn, H, G⟩ := A
  obtain ⟨T', h', X', e', W', st⟩ := Jvm.RoadKit.stI X hx hZ eT Ar (j := j) (x := x) (inb_of S hj) (g := mkF m pc Ls (.int x :: .int j :: .ref a :: rest)) rfl rfl hd
  skip
  exact own_via st (k T' h' X' e' W' (Fr.snoc X' N g) (Arv.set Ar q S Nn H G rfl W' i hi hlen))
theorem own_stB (X : Stand p l e R s m args below meth c T locs cells slots) (hx : p.tables.exec = Jvm.exec) (hZ : Z.Warmed39 s.vm) (eT : T.heap = h) {a : Addr} {kk : ClassId} {z : Int32} {vs : List Value} {dv : Value} (A : Arv Z h a kk .byte z vs dv) {j : Int32} {x : Int32} (hj : ¬ j < 0 ∧ j < z) (i : Nat) (hi : j.toNatClampNeg = i) (hlen : i < vs.length) (hn : x.toInt8.toInt32 = x) {n0 : Nat} (N : Fr n0 locs) (g : n0 ≤ a) {pc pc' : Nat} {Ls : Array Slot} {rest : List Value} (hd : decode c.code pc = .ok (.bastore, 1)) (hp : pc + 1 = pc')
    (k : ∀ T' h', Stand p l e R s m args below meth c T' (locs ++ [⟨a, j.toNatClampNeg⟩]) cells slots → T'.heap = h' → Wr h h' a j.toNatClampNeg (.int x) → Fr n0 (locs ++ [⟨a, j.toNatClampNeg⟩]) → Arv Z h' a kk .byte z (vs.set i (.int x)) dv → own_Ends p e below Φ (T'.setTop (mkF m pc' Ls rest))) : own_Ends p e below Φ (T.setTop (mkF m pc Ls (.int x :: .int j :: .ref a :: rest))) := by
  subst hp; obtain ⟨cl, Ar, q, S, Nn, H, G⟩ := A
  obtain ⟨T', h', X', e', W', st⟩ := Jvm.RoadKit.stB X hx hZ eT Ar (j := j) (x := x) (inb_of S hj) (g := mkF m pc Ls (.int x :: .int j :: .ref a :: rest)) rfl rfl hd
  have W' : Wr h h' a j.toNatClampNeg (.int x.toInt8.toInt32) := W'
  have hf := fits_nar_byte x
  rw [hn] at W' hf
  exact own_via st (k T' h' X' e' W' (Fr.snoc X' N g) (Arv.set Ar q S Nn H G hf W' i hi hlen))
theorem own_stR (X : Stand p l e R s m args below meth c T locs cells slots) (hx : p.tables.exec = Jvm.exec) (hZ : Z.Warmed39 s.vm) (eT : T.heap = h) {a : Addr} {kk : ClassId} {z : Int32} {ty : FieldType} {vs : List Value} {dv : Value} (A : Arv Z h a kk ty z vs dv) (hty : ty.isReference = true) {j : Int32} {v : Value} (hv : fits ty v = true) (F : Sto Z h a v) (hj : ¬ j < 0 ∧ j < z) (i : Nat) (hi : j.toNatClampNeg = i) (hlen : i < vs.length) {n0 : Nat} (N : Fr n0 locs) (g : n0 ≤ a) {pc pc' : Nat} {Ls : Array Slot} {rest : List Value} (hd : decode c.code pc = .ok (.aastore, 1)) (hp : pc + 1 = pc')
    (k : ∀ T' h', Stand p l e R s m args below meth c T' (locs ++ [⟨a, j.toNatClampNeg⟩]) cells slots → T'.heap = h' → Wr h h' a j.toNatClampNeg v → Fr n0 (locs ++ [⟨a, j.toNatClampNeg⟩]) → Arv Z h' a kk ty z (vs.set i v) dv → own_Ends p e below Φ (T'.setTop (mkF m pc' Ls rest))) : own_Ends p e below Φ (T.setTop (mkF m pc Ls (v :: .int j :: .ref a :: rest))) := by
  subst hp; obtain ⟨cl, Ar, q, S, Nn, H, G⟩ := A
  obtain ⟨T', h', X', e', W', st⟩ := Jvm.RoadKit.stR X hx hZ eT Ar (j := j) (inb_of S hj) hty F (g := mkF m pc Ls (v :: .int j :: .ref a :: rest)) rfl rfl hd
  exact own_via st (k T' h' X' e' W' (Fr.snoc X' N g) (Arv.set Ar q S Nn H G hv W' i hi hlen))
theorem own_newR (X : Stand p l e R s m args below meth c T locs cells slots) (hx : p.tables.exec = Jvm.exec) (hZ : Z.Warmed39 s.vm) {own C : String} {index : Nat} (hown : s.vm.findClass own = some m.cls) (w1 : (Jvm.Cond.classLink own index C).before a0 Z = true) (w2 : (Jvm.Cond.arrayOver (.object C)).before a0 Z = true) (eT : T.heap = h) {pc pc' : Nat} {Ls : Array Slot} {rest : List Value} {n : Int32} (hd : decode c.code pc = .ok (.anewarray index, 3)) (hn : ¬ n < 0) (cap : Nat) (hcap : n.toNatClampNeg ≤ cap) (hb : cap * 8 ≤ 536870912) (hc : cells + 1 ≤ R.cells) (hl : slots + cap ≤ R.slots) (hp : pc + 3 = pc')
    (k : ∀ T' h' b kk, Stand p l e R s m args below meth c T' locs (cells + 1) (slots + cap) → T'.heap = h' → b = h.size → Ext h h' → Arv Z h' b kk (.object C) n [] .null → Ovr Z kk C → own_Ends p e below Φ (T'.setTop (mkF m pc' Ls (.ref b :: rest)))) : own_Ends p e below Φ (T.setTop (mkF m pc Ls (.int n :: rest))) := by
  subst hp; obtain ⟨T', h', cA, X', e', E', A', O', st⟩ := newR X hx hZ hown w1 w2 eT (g := mkF m pc Ls (.int n :: rest)) rfl hd rfl hn hcap hb hc hl
  exact own_via st (k T' h' _ cA X' e' rfl E' (Arv.new A' hn) O')
theorem own_arraylength (X : Stand p l e R s m args below meth c T locs cells slots) (hx : p.tables.exec = Jvm.exec) (hZ : Z.Warmed39 s.vm) (eT : T.heap = h) {a : Addr} {kk : ClassId} {z : Int32} {ty : FieldType} {vs : List Value} {dv : Value} (A : Arv Z h a kk ty z vs dv) {pc pc' : Nat} {Ls : Array Slot} {rest : List Value} (hd : decode c.code pc = .ok (.arraylength, 1)) (hp : pc + 1 = pc') (k : own_Ends p e below Φ (T.setTop (mkF m pc' Ls (.int z :: rest)))) : own_Ends p e below Φ (T.setTop (mkF m pc Ls (.ref a :: rest))) := by
  subst hp; obtain ⟨cl, Ar, q, S, Nn, H, G⟩ := A
  refine own_via (X.arraylength hx (by rw [eT]; exact Ar.1) (State.isArrayOf_alike hZ.alike Ar.2.1) (g := mkF m pc Ls (.ref a :: rest)) rfl rfl hd) ?_
  rw [len_of S Nn]; exact k
theorem own_iaload (X : Stand p l e R s m args below meth c T locs cells slots) (hx : p.tables.exec = Jvm.exec) (hZ : Z.Warmed39 s.vm) (eT : T.heap = h) {a : Addr} {kk : ClassId} {z : Int32} {vs : List Value} {dv : Value} (A : Arv Z h a kk .int z vs dv) {j : Int32} {x : Int32} (hj : ¬ j < 0 ∧ j < z) (hv : vs.getD j.toNatClampNeg dv = .int x) {pc pc' : Nat} {Ls : Array Slot} {rest : List Value} (hd : decode c.code pc = .ok (.iaload, 1)) (hp : pc + 1 = pc') (k : own_Ends p e below Φ (T.setTop (mkF m pc' Ls (.int x :: rest)))) : own_Ends p e below Φ (T.setTop (mkF m pc Ls (.int j :: .ref a :: rest))) := by
  subst hp; obtain ⟨cl, Ar, q, S, Nn, H, G⟩ := A
  exact own_via (X.iaload hx (j := j) (v := .int x) (by rw [eT]; exact Ar.1) (State.isArrayOf_alike hZ.alike Ar.2.1) Ar.2.2 (inb_of S hj) (H.at (inb_of S hj) hv) (g := mkF m pc Ls (.int j :: .ref a :: rest)) rfl rfl hd) k
theorem own_caload (X : Stand p l e R s m args below meth c T locs cells slots) (hx : p.tables.exec = Jvm.exec) (hZ : Z.Warmed39 s.vm) (eT : T.heap = h) {a : Addr} {kk : ClassId} {z : Int32} {vs : List Value} {dv : Value} (A : Arv Z h a kk .char z vs dv) {j : Int32} {x : Int32} (hj : ¬ j < 0 ∧ j < z) (hv : vs.getD j.toNatClampNeg dv = .int x) {pc pc' : Nat} {Ls : Array Slot} {rest : List Value} (hd : decode c.code pc = .ok (.caload, 1)) (hp : pc + 1 = pc') (k : own_Ends p e below Φ (T.setTop (mkF m pc' Ls (.int x :: rest)))) : own_Ends p e below Φ (T.setTop (mkF m pc Ls (.int j :: .ref a :: rest))) := by
  subst hp; obtain ⟨cl, Ar, q, S, Nn, H, G⟩ := A
  exact own_via (X.caload hx (j := j) (v := .int x) (by rw [eT]; exact Ar.1) (State.isArrayOf_alike hZ.alike Ar.2.1) Ar.2.2 (inb_of S hj) (H.at (inb_of S hj) hv) (g := mkF m pc Ls (.int j :: .ref a :: rest)) rfl rfl hd) k
theorem own_baloadBytes (X : Stand p l e R s m args below meth c T locs cells slots) (hx : p.tables.exec = Jvm.exec) (hZ : Z.Warmed39 s.vm) (eT : T.heap = h) {a : Addr} {kk : ClassId} {z : Int32} {vs : List Value} {dv : Value} (A : Arv Z h a kk .byte z vs dv) {j : Int32} {x : Int32} (hj : ¬ j < 0 ∧ j < z) (hv : vs.getD j.toNatClampNeg dv = .int x) {pc pc' : Nat} {Ls : Array Slot} {rest : List Value} (hd : decode c.code pc = .ok (.baload, 1)) (hp : pc + 1 = pc') (k : own_Ends p e below Φ (T.setTop (mkF m pc' Ls (.int x :: rest)))) : own_Ends p e below Φ (T.setTop (mkF m pc Ls (.int j :: .ref a :: rest))) := by
  subst hp; obtain ⟨cl, Ar, q, S, Nn, H, G⟩ := A
  exact own_via (X.baloadBytes hx (j := j) (v := .int x) (by rw [eT]; exact Ar.1) (State.isArrayOf_alike hZ.alike Ar.2.1) Ar.2.2 (inb_of S hj) (H.at (inb_of S hj) hv) (g := mkF m pc Ls (.int j :: .ref a :: rest)) rfl rfl hd) k
theorem own_aaload (X : Stand p l e R s m args below meth c T locs cells slots) (hx : p.tables.exec = Jvm.exec) (hZ : Z.Warmed39 s.vm) (eT : T.heap = h) {a : Addr} {kk : ClassId} {z : Int32} {ty : FieldType} (hty : ty.isReference = true) {vs : List Value} {dv : Value} (A : Arv Z h a kk ty z vs dv) {j : Int32} {v : Value} (hj : ¬ j < 0 ∧ j < z) (hv : vs.getD j.toNatClampNeg dv = v) {pc pc' : Nat} {Ls : Array Slot} {rest : List Value} (hd : decode c.code pc = .ok (.aaload, 1)) (hp : pc + 1 = pc') (k : own_Ends p e below Φ (T.setTop (mkF m pc' Ls (v :: rest)))) : own_Ends p e below Φ (T.setTop (mkF m pc Ls (.int j :: .ref a :: rest))) := by
  subst hp; obtain ⟨cl, Ar, q, S, Nn, H, G⟩ := A
  exact own_via (X.aaload hx (j := j) (v := v) (by rw [eT]; exact Ar.1) (State.isArrayOf_alike hZ.alike Ar.2.1) hty Ar.2.2 (inb_of S hj) (H.at (inb_of S hj) hv) (g := mkF m pc Ls (.int j :: .ref a :: rest)) rfl rfl hd) k
theorem own_castY (X : Stand p l e R s m args below meth c T locs cells slots) (hx : p.tables.exec = Jvm.exec) (hZ : Z.Warmed39 s.vm) {own C : String} {index : Nat} (hown : s.vm.findClass own = some m.cls) (w : (Jvm.Cond.classLink own index C).before a0 Z = true) (eT : T.heap = h) {a : Addr} (F : Ins Z h a C true) {pc pc' : Nat} {Ls : Array Slot} {rest : List Value} (hd : decode c.code pc = .ok (.checkcast index, 3)) (hp : pc + 3 = pc') (k : ∀ T', Stand p l e R s m args below meth c T' locs cells slots → T'.heap = h → own_Ends p e below Φ (T'.setTop (mkF m pc' Ls (.ref a :: rest)))) : own_Ends p e below Φ (T.setTop (mkF m pc Ls (.ref a :: rest))) := by
  subst hp; obtain ⟨T', X', e', st⟩ := castY X hx hZ hown w eT F (g := mkF m pc Ls (.ref a :: rest)) rfl rfl hd
  exact own_via st (k T' X' e')
theorem own_castN (X : Stand p l e R s m args below meth c T locs cells slots) (hx : p.tables.exec = Jvm.exec) {index : Nat} {pc pc' : Nat} {Ls : Array Slot} {rest : List Value} (hd : decode c.code pc = .ok (.checkcast index, 3)) (hp : pc + 3 = pc') (k : own_Ends p e below Φ (T.setTop (mkF m pc' Ls (.null :: rest)))) : own_Ends p e below Φ (T.setTop (mkF m pc Ls (.null :: rest))) := by
  subst hp; exact own_via (fun _ q => X.checkcastNull hx (g := mkF m pc Ls (.null :: rest)) rfl rfl hd _ q) k
theorem own_instY (X : Stand p l e R s m args below meth c T locs cells slots) (hx : p.tables.exec = Jvm.exec) (hZ : Z.Warmed39 s.vm) {own C : String} {index : Nat} (hown : s.vm.findClass own = some m.cls) (w : (Jvm.Cond.classLink own index C).before a0 Z = true) (eT : T.heap = h) {a : Addr} (F : Ins Z h a C true) {pc pc' : Nat} {Ls : Array Slot} {rest : List Value} (hd : decode c.code pc = .ok (.instanceof index, 3)) (hp : pc + 3 = pc') (k : ∀ T', Stand p l e R s m args below meth c T' locs cells slots → T'.heap = h → own_Ends p e below Φ (T'.setTop (mkF m pc' Ls (.int 1 :: rest)))) : own_Ends p e below Φ (T.setTop (mkF m pc Ls (.ref a :: rest))) := by
  subst hp; obtain ⟨T', X', e', st⟩ := instY X hx hZ hown w eT F (g := mkF m pc Ls (.ref a :: rest)) rfl rfl hd
  exact own_via st (k T' X' e')
theorem own_instNull (X : Stand p l e R s m args below meth c T locs cells slots) (hx : p.tables.exec = Jvm.exec) {index : Nat} {pc pc' : Nat} {Ls : Array Slot} {rest : List Value} (hd : decode c.code pc = .ok (.instanceof index, 3)) (hp : pc + 3 = pc') (k : own_Ends p e below Φ (T.setTop (mkF m pc' Ls (.int 0 :: rest)))) : own_Ends p e below Φ (T.setTop (mkF m pc Ls (.null :: rest))) := by
  subst hp; exact own_via (fun _ q => X.instanceofNull hx (g := mkF m pc Ls (.null :: rest)) rfl rfl hd _ q) k
theorem own_instN (X : Stand p l e R s m args below meth c T locs cells slots) (hx : p.tables.exec = Jvm.exec) (hZ : Z.Warmed39 s.vm) {own K C : String} {index : Nat} (hown : s.vm.findClass own = some m.cls) (w : (Jvm.Cond.classLink own index K).before a0 Z = true) (eT : T.heap = h) {a : Addr} (E : Exa Z h a C) (F : ∃ c t, Z.vm.findClass C = some c ∧ Z.vm.findClass K = some t ∧ Z.vm.assignable c t = false) {pc pc' : Nat} {Ls : Array Slot} {rest : List Value} (hd : decode c.code pc = .ok (.instanceof index, 3)) (hp : pc + 3 = pc') (k : ∀ T', Stand p l e R s m args below meth c T' locs cells slots → T'.heap = h → own_Ends p e below Φ (T'.setTop (mkF m pc' Ls (.int 0 :: rest)))) : own_Ends p e below Φ (T.setTop (mkF m pc Ls (.ref a :: rest))) := by
  subst hp; obtain ⟨T', X', e', st⟩ := instNo X hx hZ hown w eT E F (g := mkF m pc Ls (.ref a :: rest)) rfl rfl hd
  exact own_via st (k T' X' e')
theorem own_neV {a b : Addr} {k1 k2 : ClassId} {t1 t2 : FieldType} {z1 z2 : Int32} {v1 v2 : List Value} {d1 d2 : Value} (A : Arv Z h a k1 t1 z1 v1 d1) (B : Arv Z h b k2 t2 z2 v2 d2) (hn : t1 ≠ t2) : a ≠ b := fun e => by
  subst e
  obtain ⟨c1, A1, -⟩ := A
  obtain ⟨c2, B1, -⟩ := B
  cases A1.1.symm.trans B1.1
  obtain ⟨-, k3, j1, comp, j2⟩ := A1.2.1
  obtain ⟨-, k4, i1, comp', i2⟩ := B1.2.1
  cases j1.symm.trans i1
  have := j2.symm.trans i2
  injection this with _ q
  exact hn q
theorem own_sto {a y : Addr} {kk : ClassId} {ty : FieldType} {z : Int32} {vs : List Value} {dv : Value} {C : String} (A : Arv Z h a kk ty z vs dv) (O : Ovr Z kk C) (I : Ins Z h y C true) : Sto Z h a (.ref y) := by
  obtain ⟨cl, Ar, q, -⟩ := A
  exact Sto.ofV Ar q O I
theorem own_ldcDouble (X : Stand p l e R s m args below meth c T locs cells slots) (hx : p.tables.exec = Jvm.exec) (hZ : Z.Warmed39 s.vm) {own : String} {index : Nat} {v : UInt64} (hown : s.vm.findClass own = some m.cls) (w : (Jvm.Cond.constantDouble own index v).before a0 Z = true) {pc pc' : Nat} {Ls : Array Slot} {rest : List Value} (hd : decode c.code pc = .ok (.ldc2_w index, 3)) (hp : pc + 3 = pc') (h : own_Ends p e below Φ (T.setTop (mkF m pc' Ls (.double v :: rest)))) : own_Ends p e below Φ (T.setTop (mkF m pc Ls rest)) := by
  subst hp; exact own_via (X.ldc2DoubleC hx hown (mvT hZ w) (g := mkF m pc Ls rest) rfl hd) h
theorem own_dcmp (X : Stand p l e R s m args below meth c T locs cells slots) (hx : p.tables.exec = Jvm.exec) {pc pc' : Nat} {Ls : Array Slot} {rest : List Value} {o : CmpOp} {x y : UInt64} (v : Int32) (hd : decode c.code pc = .ok (.dcmp o, 1)) (hv : cmpValue (FP.dcmp x y) o = v) (hp : pc + 1 = pc') (h : own_Ends p e below Φ (T.setTop (mkF m pc' Ls (.int v :: rest)))) : own_Ends p e below Φ (T.setTop (mkF m pc Ls (.double y :: .double x :: rest))) := by
  subst hp; exact own_via (fun _ k => XS.dcmpS X.here hx (g := mkF m pc Ls (.double y :: .double x :: rest)) rfl hd rfl hv k) h
theorem own_dload (X : Stand p l e R s m args below meth c T locs cells slots) (hx : p.tables.exec = Jvm.exec) {pc pc' : Nat} {Ls : Array Slot} {rest : List Value} {k : Nat} {v : UInt64} (hd : decode c.code pc = .ok (.dload k, 2)) (hl : Ls[k]? = some (.val (.double v))) (hp : pc + 2 = pc') (h : own_Ends p e below Φ (T.setTop (mkF m pc' Ls (.double v :: rest)))) : own_Ends p e below Φ (T.setTop (mkF m pc Ls rest)) := by
  subst hp; exact own_via (fun _ k => XS.dload X.here hx (g := mkF m pc Ls rest) rfl hd hl k) h
theorem own_dloadN (X : Stand p l e R s m args below meth c T locs cells slots) (hx : p.tables.exec = Jvm.exec) {pc pc' : Nat} {Ls : Array Slot} {rest : List Value} {k : Fin 4} {v : UInt64} (hd : decode c.code pc = .ok (.dload_n k, 1)) (hl : Ls[k.val]? = some (.val (.double v))) (hp : pc + 1 = pc') (h : own_Ends p e below Φ (T.setTop (mkF m pc' Ls (.double v :: rest)))) : own_Ends p e below Φ (T.setTop (mkF m pc Ls rest)) := by
  subst hp; exact own_via (fun _ k => XS.dloadN X.here hx (g := mkF m pc Ls rest) rfl hd hl k) h
theorem own_dstore (X : Stand p l e R s m args below meth c T locs cells slots) (hx : p.tables.exec = Jvm.exec) {pc pc' : Nat} {Ls : Array Slot} {rest : List Value} {k : Nat} {v : UInt64} (Ls' : Array Slot) (hd : decode c.code pc = .ok (.dstore k, 2)) (hl : storeLocals Ls k (.double v) = some Ls') (hp : pc + 2 = pc') (h : own_Ends p e below Φ (T.setTop (mkF m pc' Ls' rest))) : own_Ends p e below Φ (T.setTop (mkF m pc Ls (.double v :: rest))) := by
  subst hp; exact own_via (fun _ k => XS.dstore X.here hx (g := mkF m pc Ls (.double v :: rest)) rfl hd rfl hl k) h
theorem own_dstoreN (X : Stand p l e R s m args below meth c T locs cells slots) (hx : p.tables.exec = Jvm.exec) {pc pc' : Nat} {Ls : Array Slot} {rest : List Value} {k : Fin 4} {v : UInt64} (Ls' : Array Slot) (hd : decode c.code pc = .ok (.dstore_n k, 1)) (hl : storeLocals Ls k.val (.double v) = some Ls') (hp : pc + 1 = pc') (h : own_Ends p e below Φ (T.setTop (mkF m pc' Ls' rest))) : own_Ends p e below Φ (T.setTop (mkF m pc Ls (.double v :: rest))) := by
  subst hp; exact own_via (fun _ k => XS.dstoreN X.here hx (g := mkF m pc Ls (.double v :: rest)) rfl hd rfl hl k) h
theorem own_ldcLong (X : Stand p l e R s m args below meth c T locs cells slots) (hx : p.tables.exec = Jvm.exec) (hZ : Z.Warmed39 s.vm) {own : String} {index : Nat} {v : Int64} (hown : s.vm.findClass own = some m.cls) (w : (Jvm.Cond.constantLong own index v).before a0 Z = true) {pc pc' : Nat} {Ls : Array Slot} {rest : List Value} (hd : decode c.code pc = .ok (.ldc2_w index, 3)) (hp : pc + 3 = pc') (h : own_Ends p e below Φ (T.setTop (mkF m pc' Ls (.long v :: rest)))) : own_Ends p e below Φ (T.setTop (mkF m pc Ls rest)) := by
  subst hp; exact own_via (X.ldc2Long hx hown (mvT hZ w) (g := mkF m pc Ls rest) rfl hd) h
theorem own_lswHit (X : Stand p l e R s m args below meth c T locs cells slots) (hx : p.tables.exec = Jvm.exec) {pc pc' len : Nat} {Ls : Array Slot} {rest : List Value} {k : Int32} {df : Int} {prs : Array (Int × Int)} {a off : Int} (hd : decode c.code pc = .ok (.lookupswitch df prs, len)) (hs : (prs.toList.zip (prs.toList.drop 1)).all (fun (a, next) => a.1 < next.1) = true) (hf : prs.find? (·.1 == k.toInt) = some (a, off)) (ho : 0 ≤ (pc : Int) + off) (hp : ((pc : Int) + off).toNat = pc') (h : own_Ends p e below Φ (T.setTop (mkF m pc' Ls rest))) : own_Ends p e below Φ (T.setTop (mkF m pc Ls (.int k :: rest))) := by
  subst hp; exact own_via (fun _ q => X.lookupswitchHit hx (g := mkF m pc Ls (.int k :: rest)) rfl rfl hd hs hf ho _ q) h
theorem own_lswMiss (X : Stand p l e R s m args below meth c T locs cells slots) (hx : p.tables.exec = Jvm.exec) {pc pc' len : Nat} {Ls : Array Slot} {rest : List Value} {k : Int32} {df : Int} {prs : Array (Int × Int)} (hd : decode c.code pc = .ok (.lookupswitch df prs, len)) (hs : (prs.toList.zip (prs.toList.drop 1)).all (fun (a, next) => a.1 < next.1) = true) (hf : ∀ z ∈ prs.toList, z.1 ≠ k.toInt) (ho : 0 ≤ (pc : Int) + df) (hp : ((pc : Int) + df).toNat = pc') (h : own_Ends p e below Φ (T.setTop (mkF m pc' Ls rest))) : own_Ends p e below Φ (T.setTop (mkF m pc Ls (.int k :: rest))) := by
  subst hp; exact own_via (fun _ q => X.lookupswitchMiss hx (g := mkF m pc Ls (.int k :: rest)) rfl rfl hd hs (find_miss hf) ho _ q) h
theorem own_neI {t : Int32} (k : Int32) (n : Int) (hk : k.toInt = n) (h : ¬ t = k) : n ≠ t.toInt := fun q => h (Int32.toInt_inj.mp (by rw [hk, q]))
theorem own_refE {P : Value → Prop} {v : Value} (hr : v.isRef = true) (h0 : P .null) (h1 : ∀ a, P (.ref a)) : P v := by cases v <;> first | exact h0 | exact h1 _ | cases hr
theorem own_iteR {c : Prop} [Decidable c] {a b : Value} (ha : a.isRef = true) (hb : b.isRef = true) : (if c then a else b).isRef = true := by by_cases q : c <;> simp [q, ha, hb]
theorem own_fitR {C : String} {v : Value} (hr : v.isRef = true) : fits (.object C) v = true := by cases v <;> first | rfl | cases hr
theorem own_catR {v : Value} (h : v.isRef = true) : v.category = 1 := by cases v <;> first | rfl | cases h
end OwnKitA
section OwnKitN
variable {p : Program} {l : Launch} {e : Env} {R : Room} {s : State} {m : MethodId} {args : Array Value} {below : List Frame} {meth : Method} {c : Code} {T : State} {locs : List Loc} {cells slots : Nat} {Z : State} {a0 : Array Value} {h : Heap} {Φ : Outcome → State → Prop} {vm0 : Vm} {EL : List (String × Nat)} {h0 : Heap}
def own_Mir (Z : State) (C : String) (mr : Addr) : Prop := ∃ (c : ClassId) (k : Class), Z.vm.findClass C = some c ∧ Z.vm.classes[c]? = some k ∧ k.mirror = some mr
theorem own_ldcM (X : Stand p l e R s m args below meth c T locs cells slots) (hx : p.tables.exec = Jvm.exec) (hZ : Z.Warmed39 s.vm) {own C : String} {index : Nat} (hown : s.vm.findClass own = some m.cls) (w : (Jvm.Cond.classLink own index C).before a0 Z = true) {mr : Addr} (M : own_Mir Z C mr) (eT : T.heap = h) {pc pc' : Nat} {Ls : Array Slot} {rest : List Value} (hd : decode c.code pc = .ok (.ldc index, 2)) (hp : pc + 2 = pc')
    (k : ∀ T', Stand p l e R s m args below meth c T' locs cells slots → T'.heap = h → own_Ends p e below Φ (T'.setTop (mkF m pc' Ls (.ref mr :: rest)))) : own_Ends p e below Φ (T.setTop (mkF m pc Ls rest)) := by
  subst hp
  obtain ⟨cc, kc, m1, m2, m3⟩ := M
  obtain ⟨k', q, ek⟩ := hZ.alike.2.2 _ _ m2
  have f1 : s.vm.findClass C = some cc := by rw [hZ.alike.findClass]; exact m1
  have f3 : k'.mirror = some mr := by rw [ek]; exact m3
  have hev : (Term.mirror C).eval args s none [] s = some (.ref mr) := by simp [Term.eval, f1, q, f3]
  obtain ⟨vm', X', st⟩ := X.ldcMirror hx hown (mvT hZ w) hev (g := mkF m pc Ls rest) rfl hd
  exact own_via st (k _ X' eT)
theorem own_gcls (X : Stand p l e R s m args below meth c T locs cells slots) (hx : p.tables.exec = Jvm.exec) (hZ : Z.Warmed39 s.vm) {own C : String} {index : Nat} (hown : s.vm.findClass own = some m.cls)
    (w1 : (Jvm.Cond.methodLink own index Jvm.Stand.gcN).before a0 Z = true) (w2 : (Jvm.Cond.declares Jvm.Stand.gcN).before a0 Z = true) (w3 : (Jvm.Cond.noSuperclass "java/lang/Object").before a0 Z = true) (w4 : (Jvm.Cond.selects C Jvm.Stand.gcN Jvm.Stand.gcN).before a0 Z = true) (w5 : (Jvm.Cond.instanceMethod Jvm.Stand.gcN).before a0 Z = true) (w6 : (Jvm.Cond.native Jvm.Stand.gcN).before a0 Z = true) (eT : T.heap = h) {a : Addr} (E : Exa Z h a C) {mr : Addr} (M : own_Mir Z C mr)
    {pc pc' : Nat} {Ls : Array Slot} {rest : List Value} (hsize : Ls.size = c.maxLocals) (hd : decode c.code pc = .ok (.invokevirtual index, 3)) (hf : 1 ≤ R.frames) (W : Nat) (hW : (rest.map fun v => v.category).sum = W) (hl : W + (nativeFrameWords "java/lang/Object" "getClass" 1 + 11) ≤ R.locals) (hp : pc + 3 = pc')
    (k : ∀ T', Stand p l e R s m args below meth c T' locs cells slots → T'.heap = h → own_Ends p e below Φ (T'.setTop (mkF m pc' Ls (.ref mr :: rest)))) : own_Ends p e below Φ (T.setTop (mkF m pc Ls (.ref a :: rest))) := by
  subst hp
  obtain ⟨cB, kB, i1, i2, i3⟩ := isOf hZ eT E
  obtain ⟨cc, kc, m1, m2, m3⟩ := M
  have i1' := i1
  rw [hZ.alike.findClass] at i1'
  cases i1'.symm.trans m1
  obtain ⟨k', q, ek⟩ := hZ.alike.2.2 _ _ m2
  obtain ⟨vm', X', st⟩ := X.getClassOf hx hown (mvT hZ w1) (mvT hZ w2) (nf_top (args := #[]) (mvT hZ w3)) (mvT hZ w4) (mvT hZ w5) (mvT hZ w6) i1 i3 q (by rw [ek]; exact m3) (g := mkF m pc Ls (.ref a :: rest)) rfl hsize rfl hd hf (by rw [hW]; show 2 * 0 + _ + _ ≤ _; omega)
  exact own_via st (k _ X' eT)
theorem own_cpA (X : Stand p l e R s m args below meth c T locs cells slots) (hx : p.tables.exec = Jvm.exec) (hZ : Z.Warmed39 s.vm) {own : String} {index : Nat} (hown : s.vm.findClass own = some m.cls)
    (w1 : (Jvm.Cond.methodLink own index Jvm.Stand.acN).before a0 Z = true) (w2 : (Jvm.Cond.native Jvm.Stand.acN).before a0 Z = true) (w3 : (Jvm.Cond.static Jvm.Stand.acN).before a0 Z = true) (w4 : (Jvm.Cond.initialized "java/lang/System").before a0 Z = true) (eT : T.heap = h)
    {a b : Addr} {kA kB : ClassId} {ty ty' : FieldType} {z z' sp dp nn : Int32} {vs vd : List Value} {dv dd : Value} (A : Arv Z h a kA ty z vs dv) (B : Arv Z h b kB ty' z' vd dd) (us : List Value) (hty : (ty = ty' ∧ refKind ty = false) ∨ (refKind ty = true ∧ refKind ty' = true ∧ StoL Z h b us))
    (h1 : ¬ sp < 0) (h2 : ¬ dp < 0) (h3 : ¬ nn < 0) (h4 : sp.toNatClampNeg + nn.toNatClampNeg ≤ z.toNatClampNeg) (h5 : dp.toNatClampNeg + nn.toNatClampNeg ≤ z'.toNatClampNeg) (hus : us = (List.range nn.toNatClampNeg).map fun i => vs.getD (sp.toNatClampNeg + i) dv) (hl : dp.toNatClampNeg + nn.toNatClampNeg ≤ vd.length) {n0 : Nat} (N : Fr n0 locs) (ge : n0 ≤ b)
    {pc pc' : Nat} {Ls : Array Slot} {rest : List Value} (hsize : Ls.size = c.maxLocals) (hd : decode c.code pc = .ok (.invokestatic index, 3)) (hf : 1 ≤ R.frames) (W : Nat) (hW : (rest.map fun v => v.category).sum = W) (hlo : W + (nativeFrameWords "java/lang/System" "arraycopy" 5 + 11) ≤ R.locals) (hp : pc + 3 = pc')
    (k : ∀ T' h' L, Stand p l e R s m args below meth c T' L cells slots → T'.heap = h' → Fr n0 L → Keep h h' [b] → Arv Z h' b kB ty' z' (vd.take dp.toNatClampNeg ++ us ++ vd.drop (dp.toNatClampNeg + nn.toNatClampNeg)) dd → own_Ends p e below Φ (T'.setTop (mkF m pc' Ls rest))) : own_Ends p e below Φ (T.setTop (mkF m pc Ls (.int nn :: .int dp :: .ref b :: .int sp :: .ref a :: rest))) := by
  subst hp
  obtain ⟨T', h', L, X', e', N', K', A', st⟩ := cpA X hx hZ hown w1 w2 w3 w4 eT A B hty h1 h2 h3 h4 h5 hus hl N ge (g := mkF m pc Ls (.int nn :: .int dp :: .ref b :: .int sp :: .ref a :: rest)) rfl hsize rfl hd hf (W := W) (by rw [hW]; show 2 * 0 + _ ≤ _; omega) hlo
  exact own_via st (k T' h' L X' e' N' K' A')
def own_OE (Z : State) (kk : ClassId) : Prop := Ovr Z kk "java/lang/Object" ∧ Z.vm.findClass "[Ljava/lang/Object;" = some kk
theorem own_exaOE {b : Addr} {kk : ClassId} {ty : FieldType} {z : Int32} {vs : List Value} {dv : Value} (A : Arv Z h b kk ty z vs dv) (O : own_OE Z kk) : Exa Z h b "[Ljava/lang/Object;" := by
  obtain ⟨cl, ⟨h1, ⟨h2, k, h3, comp, h4⟩, -⟩, rfl, -⟩ := A
  exact ⟨cl, k, h1, O.2, h3, by cases q : cl.vm <;> first | rfl | exact absurd q (h2 _), fun q => by rw [h4] at q; cases q⟩
theorem own_stl0 {a : Addr} : StoL Z h a [] := trivial
theorem own_stlS {a : Addr} {v : Value} {r : List Value} (s : Sto Z h a v) (t : StoL Z h a r) : StoL Z h a (v :: r) := ⟨s, t⟩
theorem own_newRE (X : Stand p l e R s m args below meth c T locs cells slots) (hx : p.tables.exec = Jvm.exec) (hZ : Z.Warmed39 s.vm) {own : String} {index : Nat} (hown : s.vm.findClass own = some m.cls) (w1 : (Jvm.Cond.classLink own index "java/lang/Object").before a0 Z = true) (w2 : (Jvm.Cond.arrayOver (.object "java/lang/Object")).before a0 Z = true) (eT : T.heap = h) {pc pc' : Nat} {Ls : Array Slot} {rest : List Value} {n : Int32} (hd : decode c.code pc = .ok (.anewarray index, 3)) (hn : ¬ n < 0) (cap : Nat) (hcap : n.toNatClampNeg ≤ cap) (hb : cap * 8 ≤ 536870912) (hc : cells + 1 ≤ R.cells) (hl : slots + cap ≤ R.slots) (hp : pc + 3 = pc')
    (k : ∀ T' h' b kk, Stand p l e R s m args below meth c T' locs (cells + 1) (slots + cap) → T'.heap = h' → b = h.size → Ext h h' → Arv Z h' b kk (.object "java/lang/Object") n [] .null → own_OE Z kk → own_Ends p e below Φ (T'.setTop (mkF m pc' Ls (.ref b :: rest)))) : own_Ends p e below Φ (T.setTop (mkF m pc Ls (.int n :: rest))) := by
  subst hp
  have w2' : (Jvm.Cond.arrayOver (.object "java/lang/Object")).before args s = true := Cond.arrayOver_alike hZ.alike w2
  obtain ⟨vm₁, cA, kA, comp, -, h1, h2, h3, h4, X', st⟩ := X.anewarrayRefK hx hown (mv hZ w1) w2' (g := mkF m pc Ls (.int n :: rest)) rfl hd rfl hn (by omega) hc (by omega)
  subst eT
  rw [hZ.alike.findClass] at h1
  obtain ⟨kZ, z1, -⟩ := Vm.findClass_spec h1
  obtain ⟨k', z2, z3⟩ := hZ.alike.2.2 _ _ z1
  cases h2.symm.trans z2
  have A : Arr Z (T.heap.push (newA cA (.object "java/lang/Object") n)) T.heap.size (newA cA (.object "java/lang/Object") n) (.object "java/lang/Object") := ⟨by simp, ⟨by simp [newA], kZ, z1, comp, by rw [← h3, z3]⟩, by simp [newA]⟩
  exact own_via st (k _ _ _ cA (X'.more (Nat.le_refl _) (by omega)) rfl rfl (ext_of fun a q => Array.getElem?_push_lt q |>.trans (Array.getElem?_eq_getElem q).symm) (Arv.new A hn) ⟨⟨kZ, comp, z1, by rw [← h3, z3], by rw [← hZ.alike.findClass]; exact h4⟩, h1⟩)
theorem own_tswIn (X : Stand p l e R s m args below meth c T locs cells slots) (hx : p.tables.exec = Jvm.exec) {pc pc' len : Nat} {Ls : Array Slot} {rest : List Value} {df lo hi : Int} {offs : Array Int} {i : Int32} (o : Int) (hd : decode c.code pc = .ok (.tableswitch df lo hi offs, len)) (hin : ¬ (i.toInt < lo ∨ i.toInt > hi)) (hoff : offs[(i.toInt - lo).toNat]? = some o) (ho : 0 ≤ (pc : Int) + o) (hp : ((pc : Int) + o).toNat = pc') (h : own_Ends p e below Φ (T.setTop (mkF m pc' Ls rest))) : own_Ends p e below Φ (T.setTop (mkF m pc Ls (.int i :: rest))) :=
  own_via (fun _ k => XS.tswIn X.here hx (g := mkF m pc Ls (.int i :: rest)) rfl (pc0 := pc) (pc' := pc') rfl hd rfl hin hoff ho hp k) h
theorem own_tswOut (X : Stand p l e R s m args below meth c T locs cells slots) (hx : p.tables.exec = Jvm.exec) {pc pc' len : Nat} {Ls : Array Slot} {rest : List Value} {df lo hi : Int} {offs : Array Int} {i : Int32} (hd : decode c.code pc = .ok (.tableswitch df lo hi offs, len)) (hout : i.toInt < lo ∨ i.toInt > hi) (ho : 0 ≤ (pc : Int) + df) (hp : ((pc : Int) + df).toNat = pc') (h : own_Ends p e below Φ (T.setTop (mkF m pc' Ls rest))) : own_Ends p e below Φ (T.setTop (mkF m pc Ls (.int i :: rest))) :=
  own_via (fun _ k => XS.tswOut X.here hx (g := mkF m pc Ls (.int i :: rest)) rfl (pc0 := pc) (pc' := pc') rfl hd rfl hout ho hp k) h
theorem own_specialN (X : Stand p l e R s m args below meth c T locs cells slots) (hx : p.tables.exec = Jvm.exec) (hZ : Z.Warmed39 s.vm) {own host : String} {index : Nat} {y : MethodName} {bytes : ByteArray} {maxL : Nat} {rm : Room} {Q : Option Value → Heap → List Loc → Prop} (hy1 : y.name = "<init>") (hown : s.vm.findClass own = some m.cls) (w1 : (Jvm.Cond.methodLinkNest own index y host).before a0 Z = true) (w2 : (Jvm.Cond.instanceMethod y).before a0 Z = true) (w3 : (Jvm.Cond.initialized y.cls).before a0 Z = true) (w4 : (Jvm.Cond.code y bytes maxL none).before a0 Z = true) (hy : y.cls ≠ "java/lang/invoke/MethodHandle" ∧ y.cls ≠ "java/lang/invoke/VarHandle") (eT : T.heap = h) (hf : rm.frames + 1 ≤ R.frames) {W : Nat} (hl : W + (maxL + 11) + rm.locals ≤ R.locals) (hc : cells + rm.cells ≤ R.cells) (hs : slots + rm.slots ≤ R.slots) {pc pc' : Nat} {Ls : Array Slot} (argsL rest : List Value) {st : List Value} (hsize : Ls.size = c.maxLocals) {a : Addr} (hM : own_Met l y bytes maxL none rm Z (.ref a :: argsL).toArray h Q)
    {ps : List FieldType} {r : Option FieldType} (hpd : parseMethodDescriptor y.desc = some ⟨ps, r⟩) (hlen : argsL.length = ps.length) (hst : st = argsL.reverse ++ .ref a :: rest) (hW : (rest.map fun v => v.category).sum = W) (hd : decode c.code pc = .ok (.invokespecial index, 3)) (hp : pc + 3 = pc') (k : ∀ v T' L, Stand p l e R s m args below meth c T' (locs ++ L) (cells + rm.cells) (slots + rm.slots) → Q v T'.heap L → own_Ends p e below Φ (T'.setTop (mkF m pc' Ls (v.toList ++ rest)))) : own_Ends p e below Φ (T.setTop (mkF m pc Ls st)) := by
  subst hp
  obtain ⟨v, _, ⟨T', L', k', n'⟩, -, X', ⟨Lc, hQ, e1, e2, e3⟩, st'⟩ :=  X.specialBackNest hx (y := y) hy1 hown (Cond.methodLinkNest_wide hZ w1 :) (mvT hZ w2) (mvT hZ w4) hy (backOf (W := W) (hM []) hZ w4 w3 hf hl) (g := mkF m pc Ls st) rfl hsize (Steps.refl _) (a := a) (argsL := argsL) (rest := rest) (lenOf hpd hlen) hst (by rw [← hW]; show 2 * 0 + _ ≤ _; omega) hd (fun _ _ => ⟨rfl, eT, hc, hs⟩)
  dsimp only [Pt.U, Pt.locs, Pt.cells, Pt.slots] at X' e1 e2 e3 st' hQ
  subst e1 e2 e3
  exact own_thru st' (k v T' Lc X' hQ)
theorem own_ldcU (X : Stand p l e R (s.setVm vm0) m args below meth c T locs cells slots) (hx : p.tables.exec = Jvm.exec) (hZ : Z.Warmed39 (s.setVm vm0).vm) {own text : String} {index : Nat} (hown : (s.setVm vm0).vm.findClass own = some m.cls) (w : (Jvm.Cond.stringLink own index text).before a0 Z = true) (wS : ∀ a ∈ Bundle.stringAtoms, a.before a0 Z = true) (eT : T.heap = h) (HH : own_H Z EL s h0 vm0 h) (hEL : EW Z a0 EL) {pc pc' : Nat} {Ls : Array Slot} {rest : List Value} (hd : decode c.code pc = .ok (.ldc index, 2)) (n : Nat) (hn : 4 * text.toList.length ≤ n) (hbig : n ≤ 536870912) (hc : cells + 2 ≤ R.cells) (hl' : slots + (n + 4) ≤ R.slots) (hp : pc + 2 = pc')
    (k : ∀ (a : Addr) (T' : State) (h' : Heap), Stand p l e R (s.setVm T'.vm) m args below meth c T' locs (cells + 2) (slots + (n + 4)) → T'.heap = h' → Ext h h' → Z.Warmed39 (s.setVm T'.vm).vm → (s.setVm T'.vm).vm.findClass own = some m.cls → own_H Z EL s h0 T'.vm h' → CHr Z EL vm0 h T'.vm h' → own_Ends p e below Φ (T'.setTop (mkF m pc' Ls (.ref a :: rest)))) : own_Ends p e below Φ (T.setTop (mkF m pc Ls rest)) := by
  subst hp
  obtain ⟨hh, ⟨k0, hS, hk⟩, hC0⟩ := HH
  obtain ⟨a, T', h', k1, X', e', E', hS', hk', hZ', hown', hC, -, st⟩ := ldcOH X hx hZ hown w wS eT hS hk hEL hC0.1 (g := mkF m pc Ls rest) rfl hd hn hbig hc hl'
  exact own_via st (k a T' h' X' e' E' hZ' hown' ⟨hh, ⟨k1, hS', hk'⟩, hC0.trans hC⟩ hC)
end OwnKitN
section OwnKitB2
variable {p : Program} {l : Launch} {e : Env} {R : Room} {s : State} {m : MethodId} {args : Array Value} {below : List Frame} {meth : Method} {c : Code} {T : State} {locs : List Loc} {cells slots : Nat} {Z : State} {a0 : Array Value} {h : Heap} {Φ : Outcome → State → Prop}
theorem own_newPB (X : Stand p l e R s m args below meth c T locs cells slots) (hx : p.tables.exec = Jvm.exec) (hZ : Z.Warmed39 s.vm) (w : (Jvm.Cond.arrayClass .byte).before a0 Z = true) (eT : T.heap = h) {pc pc' : Nat} {Ls : Array Slot} {rest : List Value} {n : Int32} (hd : decode c.code pc = .ok (.newarray .byte, 2)) (hn : ¬ n < 0) (cap : Nat) (hcap : n.toNatClampNeg ≤ cap) (hb : cap * 8 ≤ 536870912) (hc : cells + 1 ≤ R.cells) (hl : slots + cap ≤ R.slots) (hp : pc + 2 = pc')
    (k : ∀ T' h' b kk, Stand p l e R s m args below meth c T' locs (cells + 1) (slots + cap) → T'.heap = h' → b = h.size → Ext h h' → Arv Z h' b kk .byte n [] (.int 0) → Z.vm.findClass "[B" = some kk → own_Ends p e below Φ (T'.setTop (mkF m pc' Ls (.ref b :: rest)))) : own_Ends p e below Φ (T.setTop (mkF m pc Ls (.int n :: rest))) := by
  subst hp; obtain ⟨T', h', cA, X', e', E', A', x', st⟩ := newPE X hx hZ (aty := .byte) w eT (g := mkF m pc Ls (.int n :: rest)) rfl hd rfl hn hcap hb hc hl (ad := "[B") (by decide)
  obtain ⟨cell, kx, x1, x2, -⟩ := x'
  cases x1.symm.trans A'.1
  exact own_via st (k T' h' _ cA X' e' rfl E' (Arv.new A' hn) x2)
theorem own_exaB {b : Addr} {kk : ClassId} {ty : FieldType} {z : Int32} {vs : List Value} {dv : Value} (A : Arv Z h b kk ty z vs dv) (O : Z.vm.findClass "[B" = some kk) : Exa Z h b "[B" := by
  obtain ⟨cl, ⟨h1, ⟨h2, k, h3, comp, h4⟩, -⟩, rfl, -⟩ := A
  exact ⟨cl, k, h1, O, h3, by cases q : cl.vm <;> first | rfl | exact absurd q (h2 _), fun q => by rw [h4] at q; cases q⟩
theorem own_cloneB (X : Stand p l e R s m args below meth c T locs cells slots) (hx : p.tables.exec = Jvm.exec) (hZ : Z.Warmed39 s.vm) {own : String} {index : Nat} (hown : s.vm.findClass own = some m.cls)
    (w1 : (Jvm.Cond.methodLink own index ⟨"[B", "clone", "()Ljava/lang/Object;"⟩).before a0 Z = true) (w2 : (Jvm.Cond.sameMethod "[B" "java/lang/Object" "clone" "()Ljava/lang/Object;").before a0 Z = true) (w3 : (Jvm.Cond.native ⟨"java/lang/Object", "clone", "()Ljava/lang/Object;"⟩).before a0 Z = true)
    (w4 : (Jvm.Cond.instanceMethod ⟨"java/lang/Object", "clone", "()Ljava/lang/Object;"⟩).before a0 Z = true) (w5 : (Jvm.Cond.selects "[B" ⟨"[B", "clone", "()Ljava/lang/Object;"⟩ ⟨"java/lang/Object", "clone", "()Ljava/lang/Object;"⟩).before a0 Z = true) (w6 : (Jvm.Cond.castable "[B" "java/lang/Cloneable").before a0 Z = true)
    (eT : T.heap = h) {a : Addr} {kk : ClassId} {ty : FieldType} {z : Int32} {vs : List Value} {dv : Value} (F : Arv Z h a kk ty z vs dv) (O : Z.vm.findClass "[B" = some kk) {pc pc' : Nat} {Ls : Array Slot} {rest : List Value} (hsize : Ls.size = c.maxLocals) (hd : decode c.code pc = .ok (.invokevirtual index, 3)) (hf : 1 ≤ R.frames) (W : Nat) (hW : (rest.map fun v => v.category).sum = W) (hl : W + 14 ≤ R.locals) (cap : Nat) (hcap : z.toNatClampNeg ≤ cap) (hc : cells + 1 ≤ R.cells) (hsl : slots + cap ≤ R.slots) (hp : pc + 3 = pc')
    (k : ∀ T' h' b, Stand p l e R s m args below meth c T' locs (cells + 1) (slots + cap) → T'.heap = h' → b = h.size → Ext h h' → Arv Z h' b kk ty z vs dv → own_Ends p e below Φ (T'.setTop (mkF m pc' Ls (.ref b :: rest)))) : own_Ends p e below Φ (T.setTop (mkF m pc Ls (.ref a :: rest))) := by
  subst hp
  have E := own_exaB F O
  obtain ⟨cl, A, q1, S, q3, H, G⟩ := F
  have FC : FitC Z cl := fitC_of A fun i hi v hv => by rw [H i hi] at hv; cases hv; exact G i hi
  obtain ⟨T', h', X', e', ex, A', E', st⟩ := cloneA X hx hZ hown w1 w2 w3 w4 w5 w6 eT A E FC (g := mkF m pc Ls (.ref a :: rest)) rfl hsize rfl hd hf (W := W) (by rw [hW]; show 2 * 0 + _ ≤ _; omega) hl (by rw [S]; exact hcap) hc hsl
  exact own_via st (k T' h' _ X' e' rfl ex ⟨cloneOf cl, A', q1, S, q3, H, G⟩)
theorem own_arvU {t : Addr} {k1 k2 : ClassId} {t1 t2 : FieldType} {z1 z2 b1 b2 : Int32} {d1 d2 : Value} (A : Arv Z h t k1 t1 z1 [.int b1] d1) (B : Arv Z h t k2 t2 z2 [.int b2] d2) (hz : ¬ z1.toNatClampNeg = 0) : b1 = b2 := by
  obtain ⟨c1, A1, -, S1, -, H1, -⟩ := A
  obtain ⟨c2, A2, -, S2, -, H2, -⟩ := B
  cases A1.1.symm.trans A2.1
  have e1 := H1 0 (by omega)
  have e2 := H2 0 (by omega)
  have e := e1.symm.trans e2
  simpa using e
theorem own_exaOF {b : Addr} {kk : ClassId} {ty : FieldType} {z : Int32} {vs : List Value} {dv : Value} (A : Arv Z h b kk ty z vs dv) (O : Z.vm.findClass "[Ljava/lang/Object;" = some kk) : Exa Z h b "[Ljava/lang/Object;" := by
  obtain ⟨cl, ⟨h1, ⟨h2, k, h3, comp, h4⟩, -⟩, rfl, -⟩ := A
  exact ⟨cl, k, h1, O, h3, by cases q : cl.vm <;> first | rfl | exact absurd q (h2 _), fun q => by rw [h4] at q; cases q⟩
theorem own_fcOf {b : Addr} {kk : ClassId} {ty : FieldType} {z : Int32} {vs : List Value} {dv : Value} {C : String} (A : Arv Z h b kk ty z vs dv) (E : Exa Z h b C) : Z.vm.findClass C = some kk := by
  obtain ⟨cl, ⟨h1, -, -⟩, rfl, -⟩ := A
  obtain ⟨c2, k, e1, e2, -⟩ := E
  cases h1.symm.trans e1
  exact e2
end OwnKitB2
section OwnStr
theorem own_c0 {P : Int32 → Prop} : ∀ c ∈ ([] : List Int32), P c := fun _ q => nomatch q
theorem own_ch (x : Int32) : ¬ (x &&& (255 : Int32)).toUInt32.toUInt16.toUInt32.toInt32 < 0 ∧ ¬ (255 : Int32) < (x &&& (255 : Int32)).toUInt32.toUInt16.toUInt32.toInt32 := by
  rw [i2c_mask]
  have h := c_mask x 255 8 (by decide) (by decide)
  constructor
  · rw [Int32.lt_iff_toInt_lt, h]; have e : (0 : Int32).toInt = 0 := rfl; omega
  · rw [Int32.lt_iff_toInt_lt, h]; have e : (255 : Int32).toInt = 255 := rfl; omega
theorem own_narC {c : Int32} (h : ¬ c < 0 ∧ ¬ (255 : Int32) < c) : nar .char c = c := by
  obtain ⟨h1, h2⟩ := h
  rw [Int32.lt_iff_toInt_lt] at h1 h2
  have e0 : (0 : Int32).toInt = 0 := rfl
  have e1 : (255 : Int32).toInt = 255 := rfl
  have q := c_i2c c
  refine Int32.toInt_inj.mp ?_
  show c.toUInt32.toUInt16.toUInt32.toInt32.toInt = c.toInt
  omega
end OwnStr
theorem own_pd0 : parseMethodDescriptor "(C)Z" = some ⟨[.char], some .boolean⟩ := by decide +kernel
theorem own_pd1 : parseMethodDescriptor "(C)[B" = some ⟨[.char], some (.array .byte)⟩ := by decide +kernel
theorem own_pd2 : parseMethodDescriptor "([BB)V" = some ⟨[(.array .byte), .byte], none⟩ := by decide +kernel
theorem own_pd3 : parseMethodDescriptor "()B" = some ⟨[], some .byte⟩ := by decide +kernel
theorem own_pd4 : parseMethodDescriptor "([BII)I" = some ⟨[(.array .byte), .int, .int], some .int⟩ := by decide +kernel
theorem own_pd5 : parseMethodDescriptor "(I)I" = some ⟨[.int], some .int⟩ := by decide +kernel
theorem own_pd6 : parseMethodDescriptor "([BII)Z" = some ⟨[(.array .byte), .int, .int], some .boolean⟩ := by decide +kernel
theorem own_pd7 : parseMethodDescriptor "(I)[B" = some ⟨[.int], some (.array .byte)⟩ := by decide +kernel
theorem own_pd8 : parseMethodDescriptor "(B[BZ)[B" = some ⟨[.byte, (.array .byte), .boolean], some (.array .byte)⟩ := by decide +kernel
theorem own_pd9 : parseMethodDescriptor "(Ljava/nio/charset/Charset;B[B)[B" = some ⟨[(.object "java/nio/charset/Charset"), .byte, (.array .byte)], some (.array .byte)⟩ := by decide +kernel
theorem own_pd10 : parseMethodDescriptor "([B[B)Z" = some ⟨[(.array .byte), (.array .byte)], some .boolean⟩ := by decide +kernel
theorem own_pd11 : parseMethodDescriptor "(I)Z" = some ⟨[.int], some .boolean⟩ := by decide +kernel
theorem own_pd12 : parseMethodDescriptor "(II)I" = some ⟨[.int, .int], some .int⟩ := by decide +kernel
theorem own_pd13 : parseMethodDescriptor "([BIII)I" = some ⟨[(.array .byte), .int, .int, .int], some .int⟩ := by decide +kernel
theorem own_pd14 : parseMethodDescriptor "()Z" = some ⟨[], some .boolean⟩ := by decide +kernel
theorem own_pd15 : parseMethodDescriptor "()I" = some ⟨[], some .int⟩ := by decide +kernel
theorem own_pd16 : parseMethodDescriptor "(Ljava/lang/Object;)Z" = some ⟨[(.object "java/lang/Object")], some .boolean⟩ := by decide +kernel
theorem own_pd17 : parseMethodDescriptor "()V" = some ⟨[], none⟩ := by decide +kernel
theorem own_pd18 : parseMethodDescriptor "([Ljava/lang/Object;ILjava/lang/Class;)[Ljava/lang/Object;" = some ⟨[(.array (.object "java/lang/Object")), .int, (.object "java/lang/Class")], some (.array (.object "java/lang/Object"))⟩ := by decide +kernel
theorem own_pd19 : parseMethodDescriptor "([Ljava/lang/Object;I)[Ljava/lang/Object;" = some ⟨[(.array (.object "java/lang/Object")), .int], some (.array (.object "java/lang/Object"))⟩ := by decide +kernel
theorem own_pd20 : parseMethodDescriptor "()[Ljava/lang/Object;" = some ⟨[], some (.array (.object "java/lang/Object"))⟩ := by decide +kernel
theorem own_pd21 : parseMethodDescriptor "(Ljava/lang/Object;[Ljava/lang/Object;I)V" = some ⟨[(.object "java/lang/Object"), (.array (.object "java/lang/Object")), .int], none⟩ := by decide +kernel
theorem own_pd22 : parseMethodDescriptor "(Ljava/lang/Object;)Ljava/lang/Object;" = some ⟨[(.object "java/lang/Object")], some (.object "java/lang/Object")⟩ := by decide +kernel
theorem own_pd23 : parseMethodDescriptor "(Ljava/lang/Object;)V" = some ⟨[(.object "java/lang/Object")], none⟩ := by decide +kernel
theorem own_pd24 : parseMethodDescriptor "([Ljava/lang/Object;)Ljava/util/List;" = some ⟨[(.array (.object "java/lang/Object"))], some (.object "java/util/List")⟩ := by decide +kernel
theorem own_pd25 : parseMethodDescriptor "(Ljava/util/Collection;)Ljava/util/List;" = some ⟨[(.object "java/util/Collection")], some (.object "java/util/List")⟩ := by decide +kernel
theorem own_pd26 : parseMethodDescriptor "()J" = some ⟨[], some .long⟩ := by decide +kernel
theorem own_pd27 : parseMethodDescriptor "(JJ)J" = some ⟨[.long, .long], some .long⟩ := by decide +kernel
theorem own_pd28 : parseMethodDescriptor "(Ljava/nio/charset/Charset;)[B" = some ⟨[(.object "java/nio/charset/Charset")], some (.array .byte)⟩ := by decide +kernel
theorem own_pd29 : parseMethodDescriptor "(Ljava/lang/String;I)Z" = some ⟨[(.object "java/lang/String"), .int], some .boolean⟩ := by decide +kernel
theorem own_pd30 : parseMethodDescriptor "(I)V" = some ⟨[.int], none⟩ := by decide +kernel
theorem own_pd31 : parseMethodDescriptor "(Ljava/util/Collection;)Z" = some ⟨[(.object "java/util/Collection")], some .boolean⟩ := by decide +kernel
theorem own_pd32 : parseMethodDescriptor "([BI)[B" = some ⟨[(.array .byte), .int], some (.array .byte)⟩ := by decide +kernel
theorem own_pd33 : parseMethodDescriptor "(Ljava/util/List;[B)V" = some ⟨[(.object "java/util/List"), (.array .byte)], none⟩ := by decide +kernel
theorem own_pd34 : parseMethodDescriptor "(Ljava/lang/Object;)Ljava/util/Optional;" = some ⟨[(.object "java/lang/Object")], some (.object "java/util/Optional")⟩ := by decide +kernel
theorem own_pd35 : parseMethodDescriptor "()Ljava/util/Optional;" = some ⟨[], some (.object "java/util/Optional")⟩ := by decide +kernel
theorem own_pd36 : parseMethodDescriptor "()Lcom/example/lockstitch/lockstitch/engine/tree/ResourcePath;" = some ⟨[], some (.object "com/example/lockstitch/lockstitch/engine/tree/ResourcePath")⟩ := by decide +kernel
theorem own_pd37 : parseMethodDescriptor "(C)Ljava/lang/String;" = some ⟨[.char], some (.object "java/lang/String")⟩ := by decide +kernel
theorem own_pd38 : parseMethodDescriptor "(Ljava/lang/String;)Ljava/util/Optional;" = some ⟨[(.object "java/lang/String")], some (.object "java/util/Optional")⟩ := by decide +kernel
theorem own_pd39 : parseMethodDescriptor "(Ljava/lang/String;Ljava/lang/String;JLjava/util/Optional;ZJ)V" = some ⟨[(.object "java/lang/String"), (.object "java/lang/String"), .long, (.object "java/util/Optional"), .boolean, .long], none⟩ := by decide +kernel
theorem own_d_jdk_31_method_10_code_0 : decode jdk_31_method_10_code 0 = .ok (.aload_n 0, 1) := by decide +kernel
theorem own_d_jdk_31_method_10_code_1 : decode jdk_31_method_10_code 1 = .ok (.ifnonnull 11, 3) := by decide +kernel
theorem own_d_jdk_31_method_10_code_12 : decode jdk_31_method_10_code 12 = .ok (.aload_n 0, 1) := by decide +kernel
theorem own_d_jdk_31_method_10_code_13 : decode jdk_31_method_10_code 13 = .ok (.areturn, 1) := by decide +kernel
theorem own_pn_java_util_Objects : plainName "java/util/Objects" = true := by first | (simp [plainName, overriddenIn]; done) | decide +kernel
theorem own_d_jdk_43_method_3_code_0 : decode jdk_43_method_3_code 0 = .ok (.iload_n 0, 1) := by decide +kernel
theorem own_d_jdk_43_method_3_code_1 : decode jdk_43_method_3_code 1 = .ok (.sipush 255, 3) := by decide +kernel
theorem own_d_jdk_43_method_3_code_4 : decode jdk_43_method_3_code 4 = .ok (.if_icmp .gt 7, 3) := by decide +kernel
theorem own_d_jdk_43_method_3_code_7 : decode jdk_43_method_3_code 7 = .ok (.iconst 1, 1) := by decide +kernel
theorem own_d_jdk_43_method_3_code_8 : decode jdk_43_method_3_code 8 = .ok (.goto 4, 3) := by decide +kernel
theorem own_d_jdk_43_method_3_code_12 : decode jdk_43_method_3_code 12 = .ok (.ireturn, 1) := by decide +kernel
theorem own_pn_java_lang_StringLatin1 : plainName "java/lang/StringLatin1" = true := by first | (simp [plainName, overriddenIn]; done) | decide +kernel
theorem own_d_jdk_43_method_46_code_0 : decode jdk_43_method_46_code 0 = .ok (.iconst 1, 1) := by decide +kernel
theorem own_d_jdk_43_method_46_code_1 : decode jdk_43_method_46_code 1 = .ok (.newarray .byte, 2) := by decide +kernel
theorem own_d_jdk_43_method_46_code_3 : decode jdk_43_method_46_code 3 = .ok (.dup, 1) := by decide +kernel
theorem own_d_jdk_43_method_46_code_4 : decode jdk_43_method_46_code 4 = .ok (.iconst 0, 1) := by decide +kernel
theorem own_d_jdk_43_method_46_code_5 : decode jdk_43_method_46_code 5 = .ok (.iload_n 0, 1) := by decide +kernel
theorem own_d_jdk_43_method_46_code_6 : decode jdk_43_method_46_code 6 = .ok (.i2b, 1) := by decide +kernel
theorem own_d_jdk_43_method_46_code_7 : decode jdk_43_method_46_code 7 = .ok (.bastore, 1) := by decide +kernel
theorem own_d_jdk_43_method_46_code_8 : decode jdk_43_method_46_code 8 = .ok (.areturn, 1) := by decide +kernel
theorem own_d_jdk_42_method_151_code_0 : decode jdk_42_method_151_code 0 = .ok (.aload_n 0, 1) := by decide +kernel
theorem own_d_jdk_42_method_151_code_1 : decode jdk_42_method_151_code 1 = .ok (.invokespecial 1, 3) := by decide +kernel
theorem own_d_jdk_42_method_151_code_4 : decode jdk_42_method_151_code 4 = .ok (.aload_n 0, 1) := by decide +kernel
theorem own_d_jdk_42_method_151_code_5 : decode jdk_42_method_151_code 5 = .ok (.aload_n 1, 1) := by decide +kernel
theorem own_d_jdk_42_method_151_code_6 : decode jdk_42_method_151_code 6 = .ok (.putfield 9, 3) := by decide +kernel
theorem own_d_jdk_42_method_151_code_9 : decode jdk_42_method_151_code 9 = .ok (.aload_n 0, 1) := by decide +kernel
theorem own_d_jdk_42_method_151_code_10 : decode jdk_42_method_151_code 10 = .ok (.iload_n 2, 1) := by decide +kernel
theorem own_d_jdk_42_method_151_code_11 : decode jdk_42_method_151_code 11 = .ok (.putfield 15, 3) := by decide +kernel
theorem own_d_jdk_42_method_151_code_14 : decode jdk_42_method_151_code 14 = .ok (.return_, 1) := by decide +kernel
theorem own_pn_java_lang_String : plainName "java/lang/String" = true := by first | (simp [plainName, overriddenIn]; done) | decide +kernel
theorem own_d_jdk_42_method_139_code_0 : decode jdk_42_method_139_code 0 = .ok (.getstatic 38, 3) := by decide +kernel
theorem own_d_jdk_42_method_139_code_3 : decode jdk_42_method_139_code 3 = .ok (.ifCond .eq 23, 3) := by decide +kernel
theorem own_d_jdk_42_method_139_code_6 : decode jdk_42_method_139_code 6 = .ok (.iload_n 0, 1) := by decide +kernel
theorem own_d_jdk_42_method_139_code_7 : decode jdk_42_method_139_code 7 = .ok (.invokestatic 1015, 3) := by decide +kernel
theorem own_d_jdk_42_method_139_code_10 : decode jdk_42_method_139_code 10 = .ok (.ifCond .eq 16, 3) := by decide +kernel
theorem own_d_jdk_42_method_139_code_13 : decode jdk_42_method_139_code 13 = .ok (.new 10, 3) := by decide +kernel
theorem own_d_jdk_42_method_139_code_16 : decode jdk_42_method_139_code 16 = .ok (.dup, 1) := by decide +kernel
theorem own_d_jdk_42_method_139_code_17 : decode jdk_42_method_139_code 17 = .ok (.iload_n 0, 1) := by decide +kernel
theorem own_d_jdk_42_method_139_code_18 : decode jdk_42_method_139_code 18 = .ok (.invokestatic 1018, 3) := by decide +kernel
theorem own_d_jdk_42_method_139_code_21 : decode jdk_42_method_139_code 21 = .ok (.iconst 0, 1) := by decide +kernel
theorem own_d_jdk_42_method_139_code_22 : decode jdk_42_method_139_code 22 = .ok (.invokespecial 209, 3) := by decide +kernel
theorem own_d_jdk_42_method_139_code_25 : decode jdk_42_method_139_code 25 = .ok (.areturn, 1) := by decide +kernel
theorem own_d_jdk_42_method_152_code_0 : decode jdk_42_method_152_code 0 = .ok (.getstatic 38, 3) := by decide +kernel
theorem own_d_jdk_42_method_152_code_3 : decode jdk_42_method_152_code 3 = .ok (.ifCond .eq 10, 3) := by decide +kernel
theorem own_d_jdk_42_method_152_code_6 : decode jdk_42_method_152_code 6 = .ok (.aload_n 0, 1) := by decide +kernel
theorem own_d_jdk_42_method_152_code_7 : decode jdk_42_method_152_code 7 = .ok (.getfield 15, 3) := by decide +kernel
theorem own_d_jdk_42_method_152_code_10 : decode jdk_42_method_152_code 10 = .ok (.goto 4, 3) := by decide +kernel
theorem own_d_jdk_42_method_152_code_14 : decode jdk_42_method_152_code 14 = .ok (.ireturn, 1) := by decide +kernel
theorem own_d_jdk_42_method_154_code_0 : decode jdk_42_method_154_code 0 = .ok (.getstatic 38, 3) := by decide +kernel
theorem own_d_jdk_42_method_154_code_3 : decode jdk_42_method_154_code 3 = .ok (.ifCond .eq 14, 3) := by decide +kernel
theorem own_d_jdk_42_method_154_code_6 : decode jdk_42_method_154_code 6 = .ok (.aload_n 0, 1) := by decide +kernel
theorem own_d_jdk_42_method_154_code_7 : decode jdk_42_method_154_code 7 = .ok (.getfield 15, 3) := by decide +kernel
theorem own_d_jdk_42_method_154_code_10 : decode jdk_42_method_154_code 10 = .ok (.ifCond .ne 7, 3) := by decide +kernel
theorem own_d_jdk_42_method_154_code_13 : decode jdk_42_method_154_code 13 = .ok (.iconst 1, 1) := by decide +kernel
theorem own_d_jdk_42_method_154_code_14 : decode jdk_42_method_154_code 14 = .ok (.goto 4, 3) := by decide +kernel
theorem own_d_jdk_42_method_154_code_18 : decode jdk_42_method_154_code 18 = .ok (.ireturn, 1) := by decide +kernel
theorem own_d_jdk_42_method_54_code_0 : decode jdk_42_method_54_code 0 = .ok (.aload_n 0, 1) := by decide +kernel
theorem own_d_jdk_42_method_54_code_1 : decode jdk_42_method_54_code 1 = .ok (.getfield 9, 3) := by decide +kernel
theorem own_d_jdk_42_method_54_code_4 : decode jdk_42_method_54_code 4 = .ok (.arraylength, 1) := by decide +kernel
theorem own_d_jdk_42_method_54_code_5 : decode jdk_42_method_54_code 5 = .ok (.aload_n 0, 1) := by decide +kernel
theorem own_d_jdk_42_method_54_code_6 : decode jdk_42_method_54_code 6 = .ok (.invokevirtual 335, 3) := by decide +kernel
theorem own_d_jdk_42_method_54_code_9 : decode jdk_42_method_54_code 9 = .ok (.ishr, 1) := by decide +kernel
theorem own_d_jdk_42_method_54_code_10 : decode jdk_42_method_54_code 10 = .ok (.ireturn, 1) := by decide +kernel
theorem own_d_jdk_123_method_3_code_0 : decode jdk_123_method_3_code 0 = .ok (.iload_n 1, 1) := by decide +kernel
theorem own_d_jdk_123_method_3_code_1 : decode jdk_123_method_3_code 1 = .ok (.iload_n 2, 1) := by decide +kernel
theorem own_d_jdk_123_method_3_code_2 : decode jdk_123_method_3_code 2 = .ok (.iadd, 1) := by decide +kernel
theorem own_d_jdk_123_method_3_code_3 : decode jdk_123_method_3_code 3 = .ok (.istore_n 3, 1) := by decide +kernel
theorem own_d_jdk_123_method_3_code_4 : decode jdk_123_method_3_code 4 = .ok (.iload_n 1, 1) := by decide +kernel
theorem own_d_jdk_123_method_3_code_5 : decode jdk_123_method_3_code 5 = .ok (.istore 4, 2) := by decide +kernel
theorem own_d_jdk_123_method_3_code_7 : decode jdk_123_method_3_code 7 = .ok (.iload 4, 2) := by decide +kernel
theorem own_d_jdk_123_method_3_code_9 : decode jdk_123_method_3_code 9 = .ok (.iload_n 3, 1) := by decide +kernel
theorem own_d_jdk_123_method_3_code_10 : decode jdk_123_method_3_code 10 = .ok (.if_icmp .ge 21, 3) := by decide +kernel
theorem own_d_jdk_123_method_3_code_13 : decode jdk_123_method_3_code 13 = .ok (.aload_n 0, 1) := by decide +kernel
theorem own_d_jdk_123_method_3_code_14 : decode jdk_123_method_3_code 14 = .ok (.iload 4, 2) := by decide +kernel
theorem own_d_jdk_123_method_3_code_16 : decode jdk_123_method_3_code 16 = .ok (.baload, 1) := by decide +kernel
theorem own_d_jdk_123_method_3_code_17 : decode jdk_123_method_3_code 17 = .ok (.ifCond .ge 8, 3) := by decide +kernel
theorem own_d_jdk_123_method_3_code_25 : decode jdk_123_method_3_code 25 = .ok (.iinc 4 1, 3) := by decide +kernel
theorem own_d_jdk_123_method_3_code_28 : decode jdk_123_method_3_code 28 = .ok (.goto (-21), 3) := by decide +kernel
theorem own_d_jdk_123_method_3_code_31 : decode jdk_123_method_3_code 31 = .ok (.iload_n 2, 1) := by decide +kernel
theorem own_d_jdk_123_method_3_code_32 : decode jdk_123_method_3_code 32 = .ok (.ireturn, 1) := by decide +kernel
theorem own_d_jdk_123_method_3_code_20 : decode jdk_123_method_3_code 20 = .ok (.iload 4, 2) := by decide +kernel
theorem own_d_jdk_123_method_3_code_22 : decode jdk_123_method_3_code 22 = .ok (.iload_n 1, 1) := by decide +kernel
theorem own_d_jdk_123_method_3_code_23 : decode jdk_123_method_3_code 23 = .ok (.isub, 1) := by decide +kernel
theorem own_d_jdk_123_method_3_code_24 : decode jdk_123_method_3_code 24 = .ok (.ireturn, 1) := by decide +kernel
theorem own_pn_java_lang_StringCoding : plainName "java/lang/StringCoding" = true := by first | (simp [plainName, overriddenIn]; done) | decide +kernel
theorem own_d_jdk_123_method_2_code_0 : decode jdk_123_method_2_code 0 = .ok (.aload_n 0, 1) := by decide +kernel
theorem own_d_jdk_123_method_2_code_1 : decode jdk_123_method_2_code 1 = .ok (.iload_n 1, 1) := by decide +kernel
theorem own_d_jdk_123_method_2_code_2 : decode jdk_123_method_2_code 2 = .ok (.iload_n 2, 1) := by decide +kernel
theorem own_d_jdk_123_method_2_code_3 : decode jdk_123_method_2_code 3 = .ok (.invokestatic 7, 3) := by decide +kernel
theorem own_d_jdk_123_method_2_code_6 : decode jdk_123_method_2_code 6 = .ok (.iload_n 2, 1) := by decide +kernel
theorem own_d_jdk_123_method_2_code_7 : decode jdk_123_method_2_code 7 = .ok (.if_icmp .eq 7, 3) := by decide +kernel
theorem own_d_jdk_123_method_2_code_14 : decode jdk_123_method_2_code 14 = .ok (.iconst 0, 1) := by decide +kernel
theorem own_d_jdk_123_method_2_code_15 : decode jdk_123_method_2_code 15 = .ok (.ireturn, 1) := by decide +kernel
theorem own_d_jdk_123_method_2_code_10 : decode jdk_123_method_2_code 10 = .ok (.iconst 1, 1) := by decide +kernel
theorem own_d_jdk_123_method_2_code_11 : decode jdk_123_method_2_code 11 = .ok (.goto 4, 3) := by decide +kernel
theorem own_d_jdk_52_method_3_code_0 : decode jdk_52_method_3_code 0 = .ok (.iload_n 0, 1) := by decide +kernel
theorem own_d_jdk_52_method_3_code_1 : decode jdk_52_method_3_code 1 = .ok (.ifCond .ge 11, 3) := by decide +kernel
theorem own_d_jdk_52_method_3_code_12 : decode jdk_52_method_3_code 12 = .ok (.iload_n 0, 1) := by decide +kernel
theorem own_d_jdk_52_method_3_code_13 : decode jdk_52_method_3_code 13 = .ok (.ldc 20, 2) := by decide +kernel
theorem own_d_jdk_52_method_3_code_15 : decode jdk_52_method_3_code 15 = .ok (.if_icmp .lt 40, 3) := by decide +kernel
theorem own_d_jdk_52_method_3_code_55 : decode jdk_52_method_3_code 55 = .ok (.iload_n 0, 1) := by decide +kernel
theorem own_d_jdk_52_method_3_code_56 : decode jdk_52_method_3_code 56 = .ok (.iconst 1, 1) := by decide +kernel
theorem own_d_jdk_52_method_3_code_57 : decode jdk_52_method_3_code 57 = .ok (.ishl, 1) := by decide +kernel
theorem own_d_jdk_52_method_3_code_58 : decode jdk_52_method_3_code 58 = .ok (.ireturn, 1) := by decide +kernel
theorem own_pn_java_lang_StringUTF16 : plainName "java/lang/StringUTF16" = true := by first | (simp [plainName, overriddenIn]; done) | decide +kernel
theorem own_d_jdk_52_method_2_code_0 : decode jdk_52_method_2_code 0 = .ok (.iload_n 0, 1) := by decide +kernel
theorem own_d_jdk_52_method_2_code_1 : decode jdk_52_method_2_code 1 = .ok (.invokestatic 11, 3) := by decide +kernel
theorem own_d_jdk_52_method_2_code_4 : decode jdk_52_method_2_code 4 = .ok (.newarray .byte, 2) := by decide +kernel
theorem own_d_jdk_52_method_2_code_6 : decode jdk_52_method_2_code 6 = .ok (.areturn, 1) := by decide +kernel
theorem own_d_jdk_42_method_46_code_0 : decode jdk_42_method_46_code 0 = .ok (.iload_n 0, 1) := by decide +kernel
theorem own_d_jdk_42_method_46_code_1 : decode jdk_42_method_46_code 1 = .ok (.iconst 1, 1) := by decide +kernel
theorem own_d_jdk_42_method_46_code_2 : decode jdk_42_method_46_code 2 = .ok (.if_icmp .ne 9, 3) := by decide +kernel
theorem own_d_jdk_42_method_46_code_11 : decode jdk_42_method_46_code 11 = .ok (.aload_n 1, 1) := by decide +kernel
theorem own_d_jdk_42_method_46_code_12 : decode jdk_42_method_46_code 12 = .ok (.iconst 0, 1) := by decide +kernel
theorem own_d_jdk_42_method_46_code_13 : decode jdk_42_method_46_code 13 = .ok (.aload_n 1, 1) := by decide +kernel
theorem own_d_jdk_42_method_46_code_14 : decode jdk_42_method_46_code 14 = .ok (.arraylength, 1) := by decide +kernel
theorem own_d_jdk_42_method_46_code_15 : decode jdk_42_method_46_code 15 = .ok (.invokestatic 128, 3) := by decide +kernel
theorem own_d_jdk_42_method_46_code_18 : decode jdk_42_method_46_code 18 = .ok (.ifCond .ne 11, 3) := by decide +kernel
theorem own_d_jdk_42_method_46_code_29 : decode jdk_42_method_46_code 29 = .ok (.iconst 0, 1) := by decide +kernel
theorem own_d_jdk_42_method_46_code_30 : decode jdk_42_method_46_code 30 = .ok (.istore_n 3, 1) := by decide +kernel
theorem own_d_jdk_42_method_46_code_31 : decode jdk_42_method_46_code 31 = .ok (.aload_n 1, 1) := by decide +kernel
theorem own_d_jdk_42_method_46_code_32 : decode jdk_42_method_46_code 32 = .ok (.arraylength, 1) := by decide +kernel
theorem own_d_jdk_42_method_46_code_33 : decode jdk_42_method_46_code 33 = .ok (.invokestatic 60, 3) := by decide +kernel
theorem own_d_jdk_42_method_46_code_36 : decode jdk_42_method_46_code 36 = .ok (.astore 4, 2) := by decide +kernel
theorem own_d_jdk_42_method_46_code_38 : decode jdk_42_method_46_code 38 = .ok (.aload_n 1, 1) := by decide +kernel
theorem own_d_jdk_42_method_46_code_39 : decode jdk_42_method_46_code 39 = .ok (.astore 5, 2) := by decide +kernel
theorem own_d_jdk_42_method_46_code_41 : decode jdk_42_method_46_code 41 = .ok (.aload 5, 2) := by decide +kernel
theorem own_d_jdk_42_method_46_code_43 : decode jdk_42_method_46_code 43 = .ok (.arraylength, 1) := by decide +kernel
theorem own_d_jdk_42_method_46_code_44 : decode jdk_42_method_46_code 44 = .ok (.istore 6, 2) := by decide +kernel
theorem own_d_jdk_42_method_46_code_46 : decode jdk_42_method_46_code 46 = .ok (.iconst 0, 1) := by decide +kernel
theorem own_d_jdk_42_method_46_code_47 : decode jdk_42_method_46_code 47 = .ok (.istore 7, 2) := by decide +kernel
theorem own_d_jdk_42_method_46_code_49 : decode jdk_42_method_46_code 49 = .ok (.iload 7, 2) := by decide +kernel
theorem own_d_jdk_42_method_46_code_51 : decode jdk_42_method_46_code 51 = .ok (.iload 6, 2) := by decide +kernel
theorem own_d_jdk_42_method_46_code_53 : decode jdk_42_method_46_code 53 = .ok (.if_icmp .ge 71, 3) := by decide +kernel
theorem own_d_jdk_42_method_46_code_56 : decode jdk_42_method_46_code 56 = .ok (.aload 5, 2) := by decide +kernel
theorem own_d_jdk_42_method_46_code_58 : decode jdk_42_method_46_code 58 = .ok (.iload 7, 2) := by decide +kernel
theorem own_d_jdk_42_method_46_code_60 : decode jdk_42_method_46_code 60 = .ok (.baload, 1) := by decide +kernel
theorem own_d_jdk_42_method_46_code_61 : decode jdk_42_method_46_code 61 = .ok (.istore 8, 2) := by decide +kernel
theorem own_d_jdk_42_method_46_code_63 : decode jdk_42_method_46_code 63 = .ok (.iload 8, 2) := by decide +kernel
theorem own_d_jdk_42_method_46_code_65 : decode jdk_42_method_46_code 65 = .ok (.ifCond .ge 44, 3) := by decide +kernel
theorem own_d_jdk_42_method_46_code_68 : decode jdk_42_method_46_code 68 = .ok (.aload 4, 2) := by decide +kernel
theorem own_d_jdk_42_method_46_code_70 : decode jdk_42_method_46_code 70 = .ok (.iload_n 3, 1) := by decide +kernel
theorem own_d_jdk_42_method_46_code_71 : decode jdk_42_method_46_code 71 = .ok (.iinc 3 1, 3) := by decide +kernel
theorem own_d_jdk_42_method_46_code_74 : decode jdk_42_method_46_code 74 = .ok (.sipush 192, 3) := by decide +kernel
theorem own_d_jdk_42_method_46_code_77 : decode jdk_42_method_46_code 77 = .ok (.iload 8, 2) := by decide +kernel
theorem own_d_jdk_42_method_46_code_79 : decode jdk_42_method_46_code 79 = .ok (.sipush 255, 3) := by decide +kernel
theorem own_d_jdk_42_method_46_code_82 : decode jdk_42_method_46_code 82 = .ok (.iand, 1) := by decide +kernel
theorem own_d_jdk_42_method_46_code_83 : decode jdk_42_method_46_code 83 = .ok (.bipush 6, 2) := by decide +kernel
theorem own_d_jdk_42_method_46_code_85 : decode jdk_42_method_46_code 85 = .ok (.ishr, 1) := by decide +kernel
theorem own_d_jdk_42_method_46_code_86 : decode jdk_42_method_46_code 86 = .ok (.ior, 1) := by decide +kernel
theorem own_d_jdk_42_method_46_code_87 : decode jdk_42_method_46_code 87 = .ok (.i2b, 1) := by decide +kernel
theorem own_d_jdk_42_method_46_code_88 : decode jdk_42_method_46_code 88 = .ok (.bastore, 1) := by decide +kernel
theorem own_d_jdk_42_method_46_code_89 : decode jdk_42_method_46_code 89 = .ok (.aload 4, 2) := by decide +kernel
theorem own_d_jdk_42_method_46_code_91 : decode jdk_42_method_46_code 91 = .ok (.iload_n 3, 1) := by decide +kernel
theorem own_d_jdk_42_method_46_code_92 : decode jdk_42_method_46_code 92 = .ok (.iinc 3 1, 3) := by decide +kernel
theorem own_d_jdk_42_method_46_code_95 : decode jdk_42_method_46_code 95 = .ok (.sipush 128, 3) := by decide +kernel
theorem own_d_jdk_42_method_46_code_98 : decode jdk_42_method_46_code 98 = .ok (.iload 8, 2) := by decide +kernel
theorem own_d_jdk_42_method_46_code_100 : decode jdk_42_method_46_code 100 = .ok (.bipush 63, 2) := by decide +kernel
theorem own_d_jdk_42_method_46_code_102 : decode jdk_42_method_46_code 102 = .ok (.iand, 1) := by decide +kernel
theorem own_d_jdk_42_method_46_code_103 : decode jdk_42_method_46_code 103 = .ok (.ior, 1) := by decide +kernel
theorem own_d_jdk_42_method_46_code_104 : decode jdk_42_method_46_code 104 = .ok (.i2b, 1) := by decide +kernel
theorem own_d_jdk_42_method_46_code_105 : decode jdk_42_method_46_code 105 = .ok (.bastore, 1) := by decide +kernel
theorem own_d_jdk_42_method_46_code_106 : decode jdk_42_method_46_code 106 = .ok (.goto 12, 3) := by decide +kernel
theorem own_d_jdk_42_method_46_code_118 : decode jdk_42_method_46_code 118 = .ok (.iinc 7 1, 3) := by decide +kernel
theorem own_d_jdk_42_method_46_code_121 : decode jdk_42_method_46_code 121 = .ok (.goto (-72), 3) := by decide +kernel
theorem own_d_jdk_42_method_46_code_124 : decode jdk_42_method_46_code 124 = .ok (.iload_n 3, 1) := by decide +kernel
theorem own_d_jdk_42_method_46_code_125 : decode jdk_42_method_46_code 125 = .ok (.aload 4, 2) := by decide +kernel
theorem own_d_jdk_42_method_46_code_127 : decode jdk_42_method_46_code 127 = .ok (.arraylength, 1) := by decide +kernel
theorem own_d_jdk_42_method_46_code_128 : decode jdk_42_method_46_code 128 = .ok (.if_icmp .ne 6, 3) := by decide +kernel
theorem own_d_jdk_42_method_46_code_131 : decode jdk_42_method_46_code 131 = .ok (.aload 4, 2) := by decide +kernel
theorem own_d_jdk_42_method_46_code_133 : decode jdk_42_method_46_code 133 = .ok (.areturn, 1) := by decide +kernel
theorem own_d_jdk_42_method_46_code_21 : decode jdk_42_method_46_code 21 = .ok (.aload_n 1, 1) := by decide +kernel
theorem own_d_jdk_42_method_46_code_22 : decode jdk_42_method_46_code 22 = .ok (.invokevirtual 279, 3) := by decide +kernel
theorem own_d_jdk_42_method_46_code_25 : decode jdk_42_method_46_code 25 = .ok (.checkcast 280, 3) := by decide +kernel
theorem own_d_jdk_42_method_46_code_28 : decode jdk_42_method_46_code 28 = .ok (.areturn, 1) := by decide +kernel
theorem own_d_jdk_42_method_18_code_0 : decode jdk_42_method_18_code 0 = .ok (.aload_n 0, 1) := by decide +kernel
theorem own_d_jdk_42_method_18_code_1 : decode jdk_42_method_18_code 1 = .ok (.getstatic 86, 3) := by decide +kernel
theorem own_d_jdk_42_method_18_code_4 : decode jdk_42_method_18_code 4 = .ok (.if_acmp .ne 10, 3) := by decide +kernel
theorem own_d_jdk_42_method_18_code_7 : decode jdk_42_method_18_code 7 = .ok (.iload_n 1, 1) := by decide +kernel
theorem own_d_jdk_42_method_18_code_8 : decode jdk_42_method_18_code 8 = .ok (.aload_n 2, 1) := by decide +kernel
theorem own_d_jdk_42_method_18_code_9 : decode jdk_42_method_18_code 9 = .ok (.iconst 1, 1) := by decide +kernel
theorem own_d_jdk_42_method_18_code_10 : decode jdk_42_method_18_code 10 = .ok (.invokestatic 252, 3) := by decide +kernel
theorem own_d_jdk_42_method_18_code_13 : decode jdk_42_method_18_code 13 = .ok (.areturn, 1) := by decide +kernel
theorem own_d_jdk_42_method_64_code_0 : decode jdk_42_method_64_code 0 = .ok (.aload_n 1, 1) := by decide +kernel
theorem own_d_jdk_42_method_64_code_1 : decode jdk_42_method_64_code 1 = .ok (.ifnonnull 11, 3) := by decide +kernel
theorem own_d_jdk_42_method_64_code_12 : decode jdk_42_method_64_code 12 = .ok (.aload_n 1, 1) := by decide +kernel
theorem own_d_jdk_42_method_64_code_13 : decode jdk_42_method_64_code 13 = .ok (.aload_n 0, 1) := by decide +kernel
theorem own_d_jdk_42_method_64_code_14 : decode jdk_42_method_64_code 14 = .ok (.invokevirtual 335, 3) := by decide +kernel
theorem own_d_jdk_42_method_64_code_17 : decode jdk_42_method_64_code 17 = .ok (.aload_n 0, 1) := by decide +kernel
theorem own_d_jdk_42_method_64_code_18 : decode jdk_42_method_64_code 18 = .ok (.getfield 9, 3) := by decide +kernel
theorem own_d_jdk_42_method_64_code_21 : decode jdk_42_method_64_code 21 = .ok (.invokestatic 535, 3) := by decide +kernel
theorem own_d_jdk_42_method_64_code_24 : decode jdk_42_method_64_code 24 = .ok (.areturn, 1) := by decide +kernel
theorem own_d_jdk_43_method_13_code_0 : decode jdk_43_method_13_code 0 = .ok (.aload_n 0, 1) := by decide +kernel
theorem own_d_jdk_43_method_13_code_1 : decode jdk_43_method_13_code 1 = .ok (.arraylength, 1) := by decide +kernel
theorem own_d_jdk_43_method_13_code_2 : decode jdk_43_method_13_code 2 = .ok (.aload_n 1, 1) := by decide +kernel
theorem own_d_jdk_43_method_13_code_3 : decode jdk_43_method_13_code 3 = .ok (.arraylength, 1) := by decide +kernel
theorem own_d_jdk_43_method_13_code_4 : decode jdk_43_method_13_code 4 = .ok (.if_icmp .ne 30, 3) := by decide +kernel
theorem own_d_jdk_43_method_13_code_7 : decode jdk_43_method_13_code 7 = .ok (.iconst 0, 1) := by decide +kernel
theorem own_d_jdk_43_method_13_code_8 : decode jdk_43_method_13_code 8 = .ok (.istore_n 2, 1) := by decide +kernel
theorem own_d_jdk_43_method_13_code_9 : decode jdk_43_method_13_code 9 = .ok (.iload_n 2, 1) := by decide +kernel
theorem own_d_jdk_43_method_13_code_10 : decode jdk_43_method_13_code 10 = .ok (.aload_n 0, 1) := by decide +kernel
theorem own_d_jdk_43_method_13_code_11 : decode jdk_43_method_13_code 11 = .ok (.arraylength, 1) := by decide +kernel
theorem own_d_jdk_43_method_13_code_12 : decode jdk_43_method_13_code 12 = .ok (.if_icmp .ge 20, 3) := by decide +kernel
theorem own_d_jdk_43_method_13_code_15 : decode jdk_43_method_13_code 15 = .ok (.aload_n 0, 1) := by decide +kernel
theorem own_d_jdk_43_method_13_code_16 : decode jdk_43_method_13_code 16 = .ok (.iload_n 2, 1) := by decide +kernel
theorem own_d_jdk_43_method_13_code_17 : decode jdk_43_method_13_code 17 = .ok (.baload, 1) := by decide +kernel
theorem own_d_jdk_43_method_13_code_18 : decode jdk_43_method_13_code 18 = .ok (.aload_n 1, 1) := by decide +kernel
theorem own_d_jdk_43_method_13_code_19 : decode jdk_43_method_13_code 19 = .ok (.iload_n 2, 1) := by decide +kernel
theorem own_d_jdk_43_method_13_code_20 : decode jdk_43_method_13_code 20 = .ok (.baload, 1) := by decide +kernel
theorem own_d_jdk_43_method_13_code_21 : decode jdk_43_method_13_code 21 = .ok (.if_icmp .eq 5, 3) := by decide +kernel
theorem own_d_jdk_43_method_13_code_26 : decode jdk_43_method_13_code 26 = .ok (.iinc 2 1, 3) := by decide +kernel
theorem own_d_jdk_43_method_13_code_29 : decode jdk_43_method_13_code 29 = .ok (.goto (-20), 3) := by decide +kernel
theorem own_d_jdk_43_method_13_code_32 : decode jdk_43_method_13_code 32 = .ok (.iconst 1, 1) := by decide +kernel
theorem own_d_jdk_43_method_13_code_33 : decode jdk_43_method_13_code 33 = .ok (.ireturn, 1) := by decide +kernel
theorem own_d_jdk_43_method_13_code_24 : decode jdk_43_method_13_code 24 = .ok (.iconst 0, 1) := by decide +kernel
theorem own_d_jdk_43_method_13_code_25 : decode jdk_43_method_13_code 25 = .ok (.ireturn, 1) := by decide +kernel
theorem own_d_jdk_42_method_66_code_0 : decode jdk_42_method_66_code 0 = .ok (.aload_n 0, 1) := by decide +kernel
theorem own_d_jdk_42_method_66_code_1 : decode jdk_42_method_66_code 1 = .ok (.aload_n 1, 1) := by decide +kernel
theorem own_d_jdk_42_method_66_code_2 : decode jdk_42_method_66_code 2 = .ok (.if_acmp .ne 5, 3) := by decide +kernel
theorem own_d_jdk_42_method_66_code_7 : decode jdk_42_method_66_code 7 = .ok (.aload_n 1, 1) := by decide +kernel
theorem own_d_jdk_42_method_66_code_8 : decode jdk_42_method_66_code 8 = .ok (.instanceof 10, 3) := by decide +kernel
theorem own_d_jdk_42_method_66_code_11 : decode jdk_42_method_66_code 11 = .ok (.ifCond .eq 43, 3) := by decide +kernel
theorem own_d_jdk_42_method_66_code_14 : decode jdk_42_method_66_code 14 = .ok (.aload_n 1, 1) := by decide +kernel
theorem own_d_jdk_42_method_66_code_15 : decode jdk_42_method_66_code 15 = .ok (.checkcast 10, 3) := by decide +kernel
theorem own_d_jdk_42_method_66_code_18 : decode jdk_42_method_66_code 18 = .ok (.astore_n 2, 1) := by decide +kernel
theorem own_d_jdk_42_method_66_code_19 : decode jdk_42_method_66_code 19 = .ok (.getstatic 38, 3) := by decide +kernel
theorem own_d_jdk_42_method_66_code_22 : decode jdk_42_method_66_code 22 = .ok (.ifCond .eq 14, 3) := by decide +kernel
theorem own_d_jdk_42_method_66_code_25 : decode jdk_42_method_66_code 25 = .ok (.aload_n 0, 1) := by decide +kernel
theorem own_d_jdk_42_method_66_code_26 : decode jdk_42_method_66_code 26 = .ok (.getfield 15, 3) := by decide +kernel
theorem own_d_jdk_42_method_66_code_29 : decode jdk_42_method_66_code 29 = .ok (.aload_n 2, 1) := by decide +kernel
theorem own_d_jdk_42_method_66_code_30 : decode jdk_42_method_66_code 30 = .ok (.getfield 15, 3) := by decide +kernel
theorem own_d_jdk_42_method_66_code_33 : decode jdk_42_method_66_code 33 = .ok (.if_icmp .ne 21, 3) := by decide +kernel
theorem own_d_jdk_42_method_66_code_36 : decode jdk_42_method_66_code 36 = .ok (.aload_n 0, 1) := by decide +kernel
theorem own_d_jdk_42_method_66_code_37 : decode jdk_42_method_66_code 37 = .ok (.getfield 9, 3) := by decide +kernel
theorem own_d_jdk_42_method_66_code_40 : decode jdk_42_method_66_code 40 = .ok (.aload_n 2, 1) := by decide +kernel
theorem own_d_jdk_42_method_66_code_41 : decode jdk_42_method_66_code 41 = .ok (.getfield 9, 3) := by decide +kernel
theorem own_d_jdk_42_method_66_code_44 : decode jdk_42_method_66_code 44 = .ok (.invokestatic 541, 3) := by decide +kernel
theorem own_d_jdk_42_method_66_code_47 : decode jdk_42_method_66_code 47 = .ok (.ifCond .eq 7, 3) := by decide +kernel
theorem own_d_jdk_42_method_66_code_54 : decode jdk_42_method_66_code 54 = .ok (.iconst 0, 1) := by decide +kernel
theorem own_d_jdk_42_method_66_code_55 : decode jdk_42_method_66_code 55 = .ok (.ireturn, 1) := by decide +kernel
theorem own_d_jdk_42_method_66_code_50 : decode jdk_42_method_66_code 50 = .ok (.iconst 1, 1) := by decide +kernel
theorem own_d_jdk_42_method_66_code_51 : decode jdk_42_method_66_code 51 = .ok (.goto 4, 3) := by decide +kernel
theorem own_d_jdk_42_method_66_code_5 : decode jdk_42_method_66_code 5 = .ok (.iconst 1, 1) := by decide +kernel
theorem own_d_jdk_42_method_66_code_6 : decode jdk_42_method_66_code 6 = .ok (.ireturn, 1) := by decide +kernel
theorem own_d_jdk_43_method_13_code_34 : decode jdk_43_method_13_code 34 = .ok (.iconst 0, 1) := by decide +kernel
theorem own_d_jdk_43_method_13_code_35 : decode jdk_43_method_13_code 35 = .ok (.ireturn, 1) := by decide +kernel
theorem own_d_jdk_29_method_65_code_0 : decode jdk_29_method_65_code 0 = .ok (.iload_n 0, 1) := by decide +kernel
theorem own_d_jdk_29_method_65_code_1 : decode jdk_29_method_65_code 1 = .ok (.iload_n 1, 1) := by decide +kernel
theorem own_d_jdk_29_method_65_code_2 : decode jdk_29_method_65_code 2 = .ok (.if_icmp .lt 7, 3) := by decide +kernel
theorem own_d_jdk_29_method_65_code_5 : decode jdk_29_method_65_code 5 = .ok (.iload_n 0, 1) := by decide +kernel
theorem own_d_jdk_29_method_65_code_6 : decode jdk_29_method_65_code 6 = .ok (.goto 4, 3) := by decide +kernel
theorem own_d_jdk_29_method_65_code_10 : decode jdk_29_method_65_code 10 = .ok (.ireturn, 1) := by decide +kernel
theorem own_d_jdk_29_method_69_code_0 : decode jdk_29_method_69_code 0 = .ok (.iload_n 0, 1) := by decide +kernel
theorem own_d_jdk_29_method_69_code_1 : decode jdk_29_method_69_code 1 = .ok (.iload_n 1, 1) := by decide +kernel
theorem own_d_jdk_29_method_69_code_2 : decode jdk_29_method_69_code 2 = .ok (.if_icmp .gt 7, 3) := by decide +kernel
theorem own_d_jdk_29_method_69_code_5 : decode jdk_29_method_69_code 5 = .ok (.iload_n 0, 1) := by decide +kernel
theorem own_d_jdk_29_method_69_code_6 : decode jdk_29_method_69_code 6 = .ok (.goto 4, 3) := by decide +kernel
theorem own_d_jdk_29_method_69_code_10 : decode jdk_29_method_69_code 10 = .ok (.ireturn, 1) := by decide +kernel
theorem own_d_jdk_43_method_23_code_0 : decode jdk_43_method_23_code 0 = .ok (.iload_n 1, 1) := by decide +kernel
theorem own_d_jdk_43_method_23_code_1 : decode jdk_43_method_23_code 1 = .ok (.i2b, 1) := by decide +kernel
theorem own_d_jdk_43_method_23_code_2 : decode jdk_43_method_23_code 2 = .ok (.istore 4, 2) := by decide +kernel
theorem own_d_jdk_43_method_23_code_4 : decode jdk_43_method_23_code 4 = .ok (.iload_n 2, 1) := by decide +kernel
theorem own_d_jdk_43_method_23_code_5 : decode jdk_43_method_23_code 5 = .ok (.istore 5, 2) := by decide +kernel
theorem own_d_jdk_43_method_23_code_7 : decode jdk_43_method_23_code 7 = .ok (.iload 5, 2) := by decide +kernel
theorem own_d_jdk_43_method_23_code_9 : decode jdk_43_method_23_code 9 = .ok (.iload_n 3, 1) := by decide +kernel
theorem own_d_jdk_43_method_23_code_10 : decode jdk_43_method_23_code 10 = .ok (.if_icmp .ge 21, 3) := by decide +kernel
theorem own_d_jdk_43_method_23_code_13 : decode jdk_43_method_23_code 13 = .ok (.aload_n 0, 1) := by decide +kernel
theorem own_d_jdk_43_method_23_code_14 : decode jdk_43_method_23_code 14 = .ok (.iload 5, 2) := by decide +kernel
theorem own_d_jdk_43_method_23_code_16 : decode jdk_43_method_23_code 16 = .ok (.baload, 1) := by decide +kernel
theorem own_d_jdk_43_method_23_code_17 : decode jdk_43_method_23_code 17 = .ok (.iload 4, 2) := by decide +kernel
theorem own_d_jdk_43_method_23_code_19 : decode jdk_43_method_23_code 19 = .ok (.if_icmp .ne 6, 3) := by decide +kernel
theorem own_d_jdk_43_method_23_code_25 : decode jdk_43_method_23_code 25 = .ok (.iinc 5 1, 3) := by decide +kernel
theorem own_d_jdk_43_method_23_code_28 : decode jdk_43_method_23_code 28 = .ok (.goto (-21), 3) := by decide +kernel
theorem own_d_jdk_43_method_23_code_31 : decode jdk_43_method_23_code 31 = .ok (.iconst (-1), 1) := by decide +kernel
theorem own_d_jdk_43_method_23_code_32 : decode jdk_43_method_23_code 32 = .ok (.ireturn, 1) := by decide +kernel
theorem own_d_jdk_43_method_23_code_22 : decode jdk_43_method_23_code 22 = .ok (.iload 5, 2) := by decide +kernel
theorem own_d_jdk_43_method_23_code_24 : decode jdk_43_method_23_code 24 = .ok (.ireturn, 1) := by decide +kernel
theorem own_d_jdk_43_method_4_code_0 : decode jdk_43_method_4_code 0 = .ok (.iload_n 0, 1) := by decide +kernel
theorem own_d_jdk_43_method_4_code_1 : decode jdk_43_method_4_code 1 = .ok (.ifCond .lt 14, 3) := by decide +kernel
theorem own_d_jdk_43_method_4_code_4 : decode jdk_43_method_4_code 4 = .ok (.iload_n 0, 1) := by decide +kernel
theorem own_d_jdk_43_method_4_code_5 : decode jdk_43_method_4_code 5 = .ok (.sipush 255, 3) := by decide +kernel
theorem own_d_jdk_43_method_4_code_8 : decode jdk_43_method_4_code 8 = .ok (.if_icmp .gt 7, 3) := by decide +kernel
theorem own_d_jdk_43_method_4_code_11 : decode jdk_43_method_4_code 11 = .ok (.iconst 1, 1) := by decide +kernel
theorem own_d_jdk_43_method_4_code_12 : decode jdk_43_method_4_code 12 = .ok (.goto 4, 3) := by decide +kernel
theorem own_d_jdk_43_method_4_code_16 : decode jdk_43_method_4_code 16 = .ok (.ireturn, 1) := by decide +kernel
theorem own_d_jdk_43_method_22_code_0 : decode jdk_43_method_22_code 0 = .ok (.iload_n 1, 1) := by decide +kernel
theorem own_d_jdk_43_method_22_code_1 : decode jdk_43_method_22_code 1 = .ok (.invokestatic 88, 3) := by decide +kernel
theorem own_d_jdk_43_method_22_code_4 : decode jdk_43_method_22_code 4 = .ok (.ifCond .ne 5, 3) := by decide +kernel
theorem own_d_jdk_43_method_22_code_9 : decode jdk_43_method_22_code 9 = .ok (.iload_n 2, 1) := by decide +kernel
theorem own_d_jdk_43_method_22_code_10 : decode jdk_43_method_22_code 10 = .ok (.iconst 0, 1) := by decide +kernel
theorem own_d_jdk_43_method_22_code_11 : decode jdk_43_method_22_code 11 = .ok (.invokestatic 92, 3) := by decide +kernel
theorem own_d_jdk_43_method_22_code_14 : decode jdk_43_method_22_code 14 = .ok (.istore_n 2, 1) := by decide +kernel
theorem own_d_jdk_43_method_22_code_15 : decode jdk_43_method_22_code 15 = .ok (.iload_n 3, 1) := by decide +kernel
theorem own_d_jdk_43_method_22_code_16 : decode jdk_43_method_22_code 16 = .ok (.aload_n 0, 1) := by decide +kernel
theorem own_d_jdk_43_method_22_code_17 : decode jdk_43_method_22_code 17 = .ok (.arraylength, 1) := by decide +kernel
theorem own_d_jdk_43_method_22_code_18 : decode jdk_43_method_22_code 18 = .ok (.invokestatic 38, 3) := by decide +kernel
theorem own_d_jdk_43_method_22_code_21 : decode jdk_43_method_22_code 21 = .ok (.istore_n 3, 1) := by decide +kernel
theorem own_d_jdk_43_method_22_code_22 : decode jdk_43_method_22_code 22 = .ok (.iload_n 2, 1) := by decide +kernel
theorem own_d_jdk_43_method_22_code_23 : decode jdk_43_method_22_code 23 = .ok (.iload_n 3, 1) := by decide +kernel
theorem own_d_jdk_43_method_22_code_24 : decode jdk_43_method_22_code 24 = .ok (.if_icmp .lt 5, 3) := by decide +kernel
theorem own_d_jdk_43_method_22_code_29 : decode jdk_43_method_22_code 29 = .ok (.aload_n 0, 1) := by decide +kernel
theorem own_d_jdk_43_method_22_code_30 : decode jdk_43_method_22_code 30 = .ok (.iload_n 1, 1) := by decide +kernel
theorem own_d_jdk_43_method_22_code_31 : decode jdk_43_method_22_code 31 = .ok (.iload_n 2, 1) := by decide +kernel
theorem own_d_jdk_43_method_22_code_32 : decode jdk_43_method_22_code 32 = .ok (.iload_n 3, 1) := by decide +kernel
theorem own_d_jdk_43_method_22_code_33 : decode jdk_43_method_22_code 33 = .ok (.invokestatic 95, 3) := by decide +kernel
theorem own_d_jdk_43_method_22_code_36 : decode jdk_43_method_22_code 36 = .ok (.ireturn, 1) := by decide +kernel
theorem own_d_jdk_42_method_80_code_0 : decode jdk_42_method_80_code 0 = .ok (.aload_n 0, 1) := by decide +kernel
theorem own_d_jdk_42_method_80_code_1 : decode jdk_42_method_80_code 1 = .ok (.invokevirtual 492, 3) := by decide +kernel
theorem own_d_jdk_42_method_80_code_4 : decode jdk_42_method_80_code 4 = .ok (.ifCond .eq 19, 3) := by decide +kernel
theorem own_d_jdk_42_method_80_code_7 : decode jdk_42_method_80_code 7 = .ok (.aload_n 0, 1) := by decide +kernel
theorem own_d_jdk_42_method_80_code_8 : decode jdk_42_method_80_code 8 = .ok (.getfield 9, 3) := by decide +kernel
theorem own_d_jdk_42_method_80_code_11 : decode jdk_42_method_80_code 11 = .ok (.iload_n 1, 1) := by decide +kernel
theorem own_d_jdk_42_method_80_code_12 : decode jdk_42_method_80_code 12 = .ok (.iload_n 2, 1) := by decide +kernel
theorem own_d_jdk_42_method_80_code_13 : decode jdk_42_method_80_code 13 = .ok (.aload_n 0, 1) := by decide +kernel
theorem own_d_jdk_42_method_80_code_14 : decode jdk_42_method_80_code 14 = .ok (.invokevirtual 505, 3) := by decide +kernel
theorem own_d_jdk_42_method_80_code_17 : decode jdk_42_method_80_code 17 = .ok (.invokestatic 637, 3) := by decide +kernel
theorem own_d_jdk_42_method_80_code_20 : decode jdk_42_method_80_code 20 = .ok (.goto 16, 3) := by decide +kernel
theorem own_d_jdk_42_method_80_code_36 : decode jdk_42_method_80_code 36 = .ok (.ireturn, 1) := by decide +kernel
theorem own_d_jdk_42_method_79_code_0 : decode jdk_42_method_79_code 0 = .ok (.aload_n 0, 1) := by decide +kernel
theorem own_d_jdk_42_method_79_code_1 : decode jdk_42_method_79_code 1 = .ok (.iload_n 1, 1) := by decide +kernel
theorem own_d_jdk_42_method_79_code_2 : decode jdk_42_method_79_code 2 = .ok (.iconst 0, 1) := by decide +kernel
theorem own_d_jdk_42_method_79_code_3 : decode jdk_42_method_79_code 3 = .ok (.invokevirtual 633, 3) := by decide +kernel
theorem own_d_jdk_42_method_79_code_6 : decode jdk_42_method_79_code 6 = .ok (.ireturn, 1) := by decide +kernel
theorem own_d_prog_24_method_8_code_0 : decode prog_24_method_8_code 0 = .ok (.aload_n 0, 1) := by decide +kernel
theorem own_d_prog_24_method_8_code_1 : decode prog_24_method_8_code 1 = .ok (.ldc 122, 2) := by decide +kernel
theorem own_d_prog_24_method_8_code_3 : decode prog_24_method_8_code 3 = .ok (.invokevirtual 124, 3) := by decide +kernel
theorem own_d_prog_24_method_8_code_6 : decode prog_24_method_8_code 6 = .ok (.ifCond .ne 12, 3) := by decide +kernel
theorem own_d_prog_24_method_8_code_18 : decode prog_24_method_8_code 18 = .ok (.iconst 1, 1) := by decide +kernel
theorem own_d_prog_24_method_8_code_19 : decode prog_24_method_8_code 19 = .ok (.goto 4, 3) := by decide +kernel
theorem own_d_prog_24_method_8_code_23 : decode prog_24_method_8_code 23 = .ok (.istore_n 2, 1) := by decide +kernel
theorem own_d_prog_24_method_8_code_24 : decode prog_24_method_8_code 24 = .ok (.aload_n 0, 1) := by decide +kernel
theorem own_d_prog_24_method_8_code_25 : decode prog_24_method_8_code 25 = .ok (.bipush 47, 2) := by decide +kernel
theorem own_d_prog_24_method_8_code_27 : decode prog_24_method_8_code 27 = .ok (.invokevirtual 129, 3) := by decide +kernel
theorem own_d_prog_24_method_8_code_30 : decode prog_24_method_8_code 30 = .ok (.ifCond .ge 11, 3) := by decide +kernel
theorem own_d_prog_24_method_8_code_41 : decode prog_24_method_8_code 41 = .ok (.iconst 1, 1) := by decide +kernel
theorem own_d_prog_24_method_8_code_42 : decode prog_24_method_8_code 42 = .ok (.goto 4, 3) := by decide +kernel
theorem own_d_prog_24_method_8_code_46 : decode prog_24_method_8_code 46 = .ok (.istore_n 3, 1) := by decide +kernel
theorem own_d_prog_24_method_8_code_47 : decode prog_24_method_8_code 47 = .ok (.iload_n 2, 1) := by decide +kernel
theorem own_d_prog_24_method_8_code_48 : decode prog_24_method_8_code 48 = .ok (.ifCond .ne 22, 3) := by decide +kernel
theorem own_d_prog_24_method_8_code_70 : decode prog_24_method_8_code 70 = .ok (.iconst 0, 1) := by decide +kernel
theorem own_d_prog_24_method_8_code_71 : decode prog_24_method_8_code 71 = .ok (.ireturn, 1) := by decide +kernel
theorem own_d_prog_24_method_8_code_33 : decode prog_24_method_8_code 33 = .ok (.aload_n 0, 1) := by decide +kernel
theorem own_d_prog_24_method_8_code_34 : decode prog_24_method_8_code 34 = .ok (.iconst 0, 1) := by decide +kernel
theorem own_d_prog_24_method_8_code_35 : decode prog_24_method_8_code 35 = .ok (.invokevirtual 129, 3) := by decide +kernel
theorem own_d_prog_24_method_8_code_38 : decode prog_24_method_8_code 38 = .ok (.ifCond .lt 7, 3) := by decide +kernel
theorem own_d_prog_24_method_8_code_45 : decode prog_24_method_8_code 45 = .ok (.iconst 0, 1) := by decide +kernel
theorem own_d_prog_24_method_8_code_9 : decode prog_24_method_8_code 9 = .ok (.aload_n 0, 1) := by decide +kernel
theorem own_d_prog_24_method_8_code_10 : decode prog_24_method_8_code 10 = .ok (.ldc 127, 2) := by decide +kernel
theorem own_d_prog_24_method_8_code_12 : decode prog_24_method_8_code 12 = .ok (.invokevirtual 124, 3) := by decide +kernel
theorem own_d_prog_24_method_8_code_15 : decode prog_24_method_8_code 15 = .ok (.ifCond .eq 7, 3) := by decide +kernel
theorem own_d_prog_24_method_8_code_22 : decode prog_24_method_8_code 22 = .ok (.iconst 0, 1) := by decide +kernel
theorem own_d_prog_24_method_8_code_51 : decode prog_24_method_8_code 51 = .ok (.iload_n 3, 1) := by decide +kernel
theorem own_d_prog_24_method_8_code_52 : decode prog_24_method_8_code 52 = .ok (.ifCond .ne 18, 3) := by decide +kernel
theorem own_d_prog_24_method_8_code_55 : decode prog_24_method_8_code 55 = .ok (.iload_n 1, 1) := by decide +kernel
theorem own_d_prog_24_method_8_code_56 : decode prog_24_method_8_code 56 = .ok (.ifCond .le 14, 3) := by decide +kernel
theorem own_d_prog_24_method_8_code_59 : decode prog_24_method_8_code 59 = .ok (.iload_n 1, 1) := by decide +kernel
theorem own_d_prog_24_method_8_code_60 : decode prog_24_method_8_code 60 = .ok (.sipush 255, 3) := by decide +kernel
theorem own_d_prog_24_method_8_code_63 : decode prog_24_method_8_code 63 = .ok (.if_icmp .gt 7, 3) := by decide +kernel
theorem own_d_prog_24_method_8_code_66 : decode prog_24_method_8_code 66 = .ok (.iconst 1, 1) := by decide +kernel
theorem own_d_prog_24_method_8_code_67 : decode prog_24_method_8_code 67 = .ok (.goto 4, 3) := by decide +kernel
theorem own_pn_com_example_lockstitch_lockstitch_engine_tree_ResourcePath : plainName "com/example/lockstitch/lockstitch/engine/tree/ResourcePath" = true := by first | (simp [plainName, overriddenIn]; done) | decide +kernel
theorem own_d_jdk_22_method_1_code_0 : decode jdk_22_method_1_code 0 = .ok (.aload_n 0, 1) := by decide +kernel
theorem own_d_jdk_22_method_1_code_1 : decode jdk_22_method_1_code 1 = .ok (.invokespecial 1, 3) := by decide +kernel
theorem own_d_jdk_22_method_1_code_4 : decode jdk_22_method_1_code 4 = .ok (.return_, 1) := by decide +kernel
theorem own_pn_java_util_AbstractCollection : plainName "java/util/AbstractCollection" = true := by first | (simp [plainName, overriddenIn]; done) | decide +kernel
theorem own_d_jdk_39_method_1_code_0 : decode jdk_39_method_1_code 0 = .ok (.aload_n 0, 1) := by decide +kernel
theorem own_d_jdk_39_method_1_code_1 : decode jdk_39_method_1_code 1 = .ok (.invokespecial 1, 3) := by decide +kernel
theorem own_d_jdk_39_method_1_code_4 : decode jdk_39_method_1_code 4 = .ok (.aload_n 0, 1) := by decide +kernel
theorem own_d_jdk_39_method_1_code_5 : decode jdk_39_method_1_code 5 = .ok (.iconst 0, 1) := by decide +kernel
theorem own_d_jdk_39_method_1_code_6 : decode jdk_39_method_1_code 6 = .ok (.putfield 7, 3) := by decide +kernel
theorem own_d_jdk_39_method_1_code_9 : decode jdk_39_method_1_code 9 = .ok (.return_, 1) := by decide +kernel
theorem own_pn_java_util_AbstractList : plainName "java/util/AbstractList" = true := by first | (simp [plainName, overriddenIn]; done) | decide +kernel
theorem own_d_jdk_38_method_1_code_0 : decode jdk_38_method_1_code 0 = .ok (.aload_n 0, 1) := by decide +kernel
theorem own_d_jdk_38_method_1_code_1 : decode jdk_38_method_1_code 1 = .ok (.invokespecial 1, 3) := by decide +kernel
theorem own_d_jdk_38_method_1_code_4 : decode jdk_38_method_1_code 4 = .ok (.iload_n 1, 1) := by decide +kernel
theorem own_d_jdk_38_method_1_code_5 : decode jdk_38_method_1_code 5 = .ok (.ifCond .le 14, 3) := by decide +kernel
theorem own_d_jdk_38_method_1_code_8 : decode jdk_38_method_1_code 8 = .ok (.aload_n 0, 1) := by decide +kernel
theorem own_d_jdk_38_method_1_code_9 : decode jdk_38_method_1_code 9 = .ok (.iload_n 1, 1) := by decide +kernel
theorem own_d_jdk_38_method_1_code_10 : decode jdk_38_method_1_code 10 = .ok (.anewarray 7, 3) := by decide +kernel
theorem own_d_jdk_38_method_1_code_13 : decode jdk_38_method_1_code 13 = .ok (.putfield 9, 3) := by decide +kernel
theorem own_d_jdk_38_method_1_code_16 : decode jdk_38_method_1_code 16 = .ok (.goto 44, 3) := by decide +kernel
theorem own_d_jdk_38_method_1_code_60 : decode jdk_38_method_1_code 60 = .ok (.return_, 1) := by decide +kernel
theorem own_pn_java_util_ArrayList : plainName "java/util/ArrayList" = true := by first | (simp [plainName, overriddenIn]; done) | decide +kernel
theorem own_d_jdk_65_method_120_code_0 : decode jdk_65_method_120_code 0 = .ok (.aload_n 2, 1) := by decide +kernel
theorem own_d_jdk_65_method_120_code_1 : decode jdk_65_method_120_code 1 = .ok (.ldc 110, 2) := by decide +kernel
theorem own_d_jdk_65_method_120_code_3 : decode jdk_65_method_120_code 3 = .ok (.if_acmp .ne 10, 3) := by decide +kernel
theorem own_d_jdk_65_method_120_code_6 : decode jdk_65_method_120_code 6 = .ok (.iload_n 1, 1) := by decide +kernel
theorem own_d_jdk_65_method_120_code_7 : decode jdk_65_method_120_code 7 = .ok (.anewarray 2, 3) := by decide +kernel
theorem own_d_jdk_65_method_120_code_10 : decode jdk_65_method_120_code 10 = .ok (.goto 14, 3) := by decide +kernel
theorem own_d_jdk_65_method_120_code_24 : decode jdk_65_method_120_code 24 = .ok (.astore_n 3, 1) := by decide +kernel
theorem own_d_jdk_65_method_120_code_25 : decode jdk_65_method_120_code 25 = .ok (.aload_n 0, 1) := by decide +kernel
theorem own_d_jdk_65_method_120_code_26 : decode jdk_65_method_120_code 26 = .ok (.iconst 0, 1) := by decide +kernel
theorem own_d_jdk_65_method_120_code_27 : decode jdk_65_method_120_code 27 = .ok (.aload_n 3, 1) := by decide +kernel
theorem own_d_jdk_65_method_120_code_28 : decode jdk_65_method_120_code 28 = .ok (.iconst 0, 1) := by decide +kernel
theorem own_d_jdk_65_method_120_code_29 : decode jdk_65_method_120_code 29 = .ok (.aload_n 0, 1) := by decide +kernel
theorem own_d_jdk_65_method_120_code_30 : decode jdk_65_method_120_code 30 = .ok (.arraylength, 1) := by decide +kernel
theorem own_d_jdk_65_method_120_code_31 : decode jdk_65_method_120_code 31 = .ok (.iload_n 1, 1) := by decide +kernel
theorem own_d_jdk_65_method_120_code_32 : decode jdk_65_method_120_code 32 = .ok (.invokestatic 304, 3) := by decide +kernel
theorem own_d_jdk_65_method_120_code_35 : decode jdk_65_method_120_code 35 = .ok (.invokestatic 150, 3) := by decide +kernel
theorem own_d_jdk_65_method_120_code_38 : decode jdk_65_method_120_code 38 = .ok (.aload_n 3, 1) := by decide +kernel
theorem own_d_jdk_65_method_120_code_39 : decode jdk_65_method_120_code 39 = .ok (.areturn, 1) := by decide +kernel
theorem own_pn_java_util_Arrays : plainName "java/util/Arrays" = true := by first | (simp [plainName, overriddenIn]; done) | decide +kernel
theorem own_d_jdk_65_method_119_code_0 : decode jdk_65_method_119_code 0 = .ok (.aload_n 0, 1) := by decide +kernel
theorem own_d_jdk_65_method_119_code_1 : decode jdk_65_method_119_code 1 = .ok (.iload_n 1, 1) := by decide +kernel
theorem own_d_jdk_65_method_119_code_2 : decode jdk_65_method_119_code 2 = .ok (.aload_n 0, 1) := by decide +kernel
theorem own_d_jdk_65_method_119_code_3 : decode jdk_65_method_119_code 3 = .ok (.invokevirtual 86, 3) := by decide +kernel
theorem own_d_jdk_65_method_119_code_6 : decode jdk_65_method_119_code 6 = .ok (.invokestatic 300, 3) := by decide +kernel
theorem own_d_jdk_65_method_119_code_9 : decode jdk_65_method_119_code 9 = .ok (.areturn, 1) := by decide +kernel
theorem own_d_jdk_45_method_7_code_0 : decode jdk_45_method_7_code 0 = .ok (.aload_n 0, 1) := by decide +kernel
theorem own_d_jdk_45_method_7_code_1 : decode jdk_45_method_7_code 1 = .ok (.getfield 7, 3) := by decide +kernel
theorem own_d_jdk_45_method_7_code_4 : decode jdk_45_method_7_code 4 = .ok (.aload_n 0, 1) := by decide +kernel
theorem own_d_jdk_45_method_7_code_5 : decode jdk_45_method_7_code 5 = .ok (.getfield 7, 3) := by decide +kernel
theorem own_d_jdk_45_method_7_code_8 : decode jdk_45_method_7_code 8 = .ok (.arraylength, 1) := by decide +kernel
theorem own_d_jdk_45_method_7_code_9 : decode jdk_45_method_7_code 9 = .ok (.invokestatic 29, 3) := by decide +kernel
theorem own_d_jdk_45_method_7_code_12 : decode jdk_45_method_7_code 12 = .ok (.areturn, 1) := by decide +kernel
theorem own_pn_java_util_ImmutableCollections_ListN : plainName "java/util/ImmutableCollections$ListN" = true := by first | (simp [plainName, overriddenIn]; done) | decide +kernel
theorem own_d_jdk_45_method_3_code_0 : decode jdk_45_method_3_code 0 = .ok (.aload_n 0, 1) := by decide +kernel
theorem own_d_jdk_45_method_3_code_1 : decode jdk_45_method_3_code 1 = .ok (.getfield 7, 3) := by decide +kernel
theorem own_d_jdk_45_method_3_code_4 : decode jdk_45_method_3_code 4 = .ok (.arraylength, 1) := by decide +kernel
theorem own_d_jdk_45_method_3_code_5 : decode jdk_45_method_3_code 5 = .ok (.ireturn, 1) := by decide +kernel
theorem own_d_jdk_38_method_41_code_0 : decode jdk_38_method_41_code 0 = .ok (.aload_n 1, 1) := by decide +kernel
theorem own_d_jdk_38_method_41_code_1 : decode jdk_38_method_41_code 1 = .ok (.invokeinterface 42 1, 5) := by decide +kernel
theorem own_d_jdk_38_method_41_code_6 : decode jdk_38_method_41_code 6 = .ok (.astore_n 2, 1) := by decide +kernel
theorem own_d_jdk_38_method_41_code_7 : decode jdk_38_method_41_code 7 = .ok (.aload_n 0, 1) := by decide +kernel
theorem own_d_jdk_38_method_41_code_8 : decode jdk_38_method_41_code 8 = .ok (.dup, 1) := by decide +kernel
theorem own_d_jdk_38_method_41_code_9 : decode jdk_38_method_41_code 9 = .ok (.getfield 63, 3) := by decide +kernel
theorem own_d_jdk_38_method_41_code_12 : decode jdk_38_method_41_code 12 = .ok (.iconst 1, 1) := by decide +kernel
theorem own_d_jdk_38_method_41_code_13 : decode jdk_38_method_41_code 13 = .ok (.iadd, 1) := by decide +kernel
theorem own_d_jdk_38_method_41_code_14 : decode jdk_38_method_41_code 14 = .ok (.putfield 63, 3) := by decide +kernel
theorem own_d_jdk_38_method_41_code_17 : decode jdk_38_method_41_code 17 = .ok (.aload_n 2, 1) := by decide +kernel
theorem own_d_jdk_38_method_41_code_18 : decode jdk_38_method_41_code 18 = .ok (.arraylength, 1) := by decide +kernel
theorem own_d_jdk_38_method_41_code_19 : decode jdk_38_method_41_code 19 = .ok (.istore_n 3, 1) := by decide +kernel
theorem own_d_jdk_38_method_41_code_20 : decode jdk_38_method_41_code 20 = .ok (.iload_n 3, 1) := by decide +kernel
theorem own_d_jdk_38_method_41_code_21 : decode jdk_38_method_41_code 21 = .ok (.ifCond .ne 5, 3) := by decide +kernel
theorem own_d_jdk_38_method_41_code_24 : decode jdk_38_method_41_code 24 = .ok (.iconst 0, 1) := by decide +kernel
theorem own_d_jdk_38_method_41_code_25 : decode jdk_38_method_41_code 25 = .ok (.ireturn, 1) := by decide +kernel
theorem own_d_jdk_38_method_24_code_0 : decode jdk_38_method_24_code 0 = .ok (.iload_n 3, 1) := by decide +kernel
theorem own_d_jdk_38_method_24_code_1 : decode jdk_38_method_24_code 1 = .ok (.aload_n 2, 1) := by decide +kernel
theorem own_d_jdk_38_method_24_code_2 : decode jdk_38_method_24_code 2 = .ok (.arraylength, 1) := by decide +kernel
theorem own_d_jdk_38_method_24_code_3 : decode jdk_38_method_24_code 3 = .ok (.if_icmp .ne 8, 3) := by decide +kernel
theorem own_d_jdk_38_method_24_code_11 : decode jdk_38_method_24_code 11 = .ok (.aload_n 2, 1) := by decide +kernel
theorem own_d_jdk_38_method_24_code_12 : decode jdk_38_method_24_code 12 = .ok (.iload_n 3, 1) := by decide +kernel
theorem own_d_jdk_38_method_24_code_13 : decode jdk_38_method_24_code 13 = .ok (.aload_n 1, 1) := by decide +kernel
theorem own_d_jdk_38_method_24_code_14 : decode jdk_38_method_24_code 14 = .ok (.aastore, 1) := by decide +kernel
theorem own_d_jdk_38_method_24_code_15 : decode jdk_38_method_24_code 15 = .ok (.aload_n 0, 1) := by decide +kernel
theorem own_d_jdk_38_method_24_code_16 : decode jdk_38_method_24_code 16 = .ok (.iload_n 3, 1) := by decide +kernel
theorem own_d_jdk_38_method_24_code_17 : decode jdk_38_method_24_code 17 = .ok (.iconst 1, 1) := by decide +kernel
theorem own_d_jdk_38_method_24_code_18 : decode jdk_38_method_24_code 18 = .ok (.iadd, 1) := by decide +kernel
theorem own_d_jdk_38_method_24_code_19 : decode jdk_38_method_24_code 19 = .ok (.putfield 48, 3) := by decide +kernel
theorem own_d_jdk_38_method_24_code_22 : decode jdk_38_method_24_code 22 = .ok (.return_, 1) := by decide +kernel
theorem own_d_jdk_38_method_25_code_0 : decode jdk_38_method_25_code 0 = .ok (.aload_n 0, 1) := by decide +kernel
theorem own_d_jdk_38_method_25_code_1 : decode jdk_38_method_25_code 1 = .ok (.dup, 1) := by decide +kernel
theorem own_d_jdk_38_method_25_code_2 : decode jdk_38_method_25_code 2 = .ok (.getfield 63, 3) := by decide +kernel
theorem own_d_jdk_38_method_25_code_5 : decode jdk_38_method_25_code 5 = .ok (.iconst 1, 1) := by decide +kernel
theorem own_d_jdk_38_method_25_code_6 : decode jdk_38_method_25_code 6 = .ok (.iadd, 1) := by decide +kernel
theorem own_d_jdk_38_method_25_code_7 : decode jdk_38_method_25_code 7 = .ok (.putfield 63, 3) := by decide +kernel
theorem own_d_jdk_38_method_25_code_10 : decode jdk_38_method_25_code 10 = .ok (.aload_n 0, 1) := by decide +kernel
theorem own_d_jdk_38_method_25_code_11 : decode jdk_38_method_25_code 11 = .ok (.aload_n 1, 1) := by decide +kernel
theorem own_d_jdk_38_method_25_code_12 : decode jdk_38_method_25_code 12 = .ok (.aload_n 0, 1) := by decide +kernel
theorem own_d_jdk_38_method_25_code_13 : decode jdk_38_method_25_code 13 = .ok (.getfield 9, 3) := by decide +kernel
theorem own_d_jdk_38_method_25_code_16 : decode jdk_38_method_25_code 16 = .ok (.aload_n 0, 1) := by decide +kernel
theorem own_d_jdk_38_method_25_code_17 : decode jdk_38_method_25_code 17 = .ok (.getfield 48, 3) := by decide +kernel
theorem own_d_jdk_38_method_25_code_20 : decode jdk_38_method_25_code 20 = .ok (.invokevirtual 131, 3) := by decide +kernel
theorem own_d_jdk_38_method_25_code_23 : decode jdk_38_method_25_code 23 = .ok (.iconst 1, 1) := by decide +kernel
theorem own_d_jdk_38_method_25_code_24 : decode jdk_38_method_25_code 24 = .ok (.ireturn, 1) := by decide +kernel
theorem own_d_jdk_47_method_1_code_0 : decode jdk_47_method_1_code 0 = .ok (.aload_n 0, 1) := by decide +kernel
theorem own_d_jdk_47_method_1_code_1 : decode jdk_47_method_1_code 1 = .ok (.invokespecial 1, 3) := by decide +kernel
theorem own_d_jdk_47_method_1_code_4 : decode jdk_47_method_1_code 4 = .ok (.return_, 1) := by decide +kernel
theorem own_pn_java_util_ImmutableCollections_AbstractImmutableCollection : plainName "java/util/ImmutableCollections$AbstractImmutableCollection" = true := by first | (simp [plainName, overriddenIn]; done) | decide +kernel
theorem own_d_jdk_46_method_1_code_0 : decode jdk_46_method_1_code 0 = .ok (.aload_n 0, 1) := by decide +kernel
theorem own_d_jdk_46_method_1_code_1 : decode jdk_46_method_1_code 1 = .ok (.invokespecial 1, 3) := by decide +kernel
theorem own_d_jdk_46_method_1_code_4 : decode jdk_46_method_1_code 4 = .ok (.return_, 1) := by decide +kernel
theorem own_pn_java_util_ImmutableCollections_AbstractImmutableList : plainName "java/util/ImmutableCollections$AbstractImmutableList" = true := by first | (simp [plainName, overriddenIn]; done) | decide +kernel
theorem own_d_jdk_38_method_9_code_0 : decode jdk_38_method_9_code 0 = .ok (.aload_n 0, 1) := by decide +kernel
theorem own_d_jdk_38_method_9_code_1 : decode jdk_38_method_9_code 1 = .ok (.getfield 48, 3) := by decide +kernel
theorem own_d_jdk_38_method_9_code_4 : decode jdk_38_method_9_code 4 = .ok (.ifCond .ne 7, 3) := by decide +kernel
theorem own_d_jdk_38_method_9_code_11 : decode jdk_38_method_9_code 11 = .ok (.iconst 0, 1) := by decide +kernel
theorem own_d_jdk_38_method_9_code_12 : decode jdk_38_method_9_code 12 = .ok (.ireturn, 1) := by decide +kernel
theorem own_d_jdk_38_method_16_code_0 : decode jdk_38_method_16_code 0 = .ok (.aload_n 0, 1) := by decide +kernel
theorem own_d_jdk_38_method_16_code_1 : decode jdk_38_method_16_code 1 = .ok (.getfield 9, 3) := by decide +kernel
theorem own_d_jdk_38_method_16_code_4 : decode jdk_38_method_16_code 4 = .ok (.aload_n 0, 1) := by decide +kernel
theorem own_d_jdk_38_method_16_code_5 : decode jdk_38_method_16_code 5 = .ok (.getfield 48, 3) := by decide +kernel
theorem own_d_jdk_38_method_16_code_8 : decode jdk_38_method_16_code 8 = .ok (.invokestatic 66, 3) := by decide +kernel
theorem own_d_jdk_38_method_16_code_11 : decode jdk_38_method_16_code 11 = .ok (.areturn, 1) := by decide +kernel
theorem own_d_jdk_44_method_1_code_0 : decode jdk_44_method_1_code 0 = .ok (.aload_n 0, 1) := by decide +kernel
theorem own_d_jdk_44_method_1_code_1 : decode jdk_44_method_1_code 1 = .ok (.invokespecial 1, 3) := by decide +kernel
theorem own_d_jdk_44_method_1_code_4 : decode jdk_44_method_1_code 4 = .ok (.aload_n 0, 1) := by decide +kernel
theorem own_d_jdk_44_method_1_code_5 : decode jdk_44_method_1_code 5 = .ok (.aload_n 1, 1) := by decide +kernel
theorem own_d_jdk_44_method_1_code_6 : decode jdk_44_method_1_code 6 = .ok (.invokestatic 7, 3) := by decide +kernel
theorem own_d_jdk_44_method_1_code_9 : decode jdk_44_method_1_code 9 = .ok (.putfield 13, 3) := by decide +kernel
theorem own_d_jdk_44_method_1_code_12 : decode jdk_44_method_1_code 12 = .ok (.aload_n 0, 1) := by decide +kernel
theorem own_d_jdk_44_method_1_code_13 : decode jdk_44_method_1_code 13 = .ok (.getstatic 19, 3) := by decide +kernel
theorem own_d_jdk_44_method_1_code_16 : decode jdk_44_method_1_code 16 = .ok (.putfield 24, 3) := by decide +kernel
theorem own_d_jdk_44_method_1_code_19 : decode jdk_44_method_1_code 19 = .ok (.return_, 1) := by decide +kernel
theorem own_pn_java_util_ImmutableCollections_List12 : plainName "java/util/ImmutableCollections$List12" = true := by first | (simp [plainName, overriddenIn]; done) | decide +kernel
theorem own_d_jdk_40_method_47_code_0 : decode jdk_40_method_47_code 0 = .ok (.aload_n 0, 1) := by decide +kernel
theorem own_d_jdk_40_method_47_code_1 : decode jdk_40_method_47_code 1 = .ok (.arraylength, 1) := by decide +kernel
theorem own_d_jdk_40_method_47_code_2 : decode jdk_40_method_47_code 2 = .ok (.tableswitch 57 0 2 #[26, 32, 43], 26) := by decide +kernel
theorem own_d_jdk_40_method_47_code_34 : decode jdk_40_method_47_code 34 = .ok (.new 96, 3) := by decide +kernel
theorem own_d_jdk_40_method_47_code_37 : decode jdk_40_method_47_code 37 = .ok (.dup, 1) := by decide +kernel
theorem own_d_jdk_40_method_47_code_38 : decode jdk_40_method_47_code 38 = .ok (.aload_n 0, 1) := by decide +kernel
theorem own_d_jdk_40_method_47_code_39 : decode jdk_40_method_47_code 39 = .ok (.iconst 0, 1) := by decide +kernel
theorem own_d_jdk_40_method_47_code_40 : decode jdk_40_method_47_code 40 = .ok (.aaload, 1) := by decide +kernel
theorem own_d_jdk_40_method_47_code_41 : decode jdk_40_method_47_code 41 = .ok (.invokespecial 98, 3) := by decide +kernel
theorem own_d_jdk_40_method_47_code_44 : decode jdk_40_method_47_code 44 = .ok (.areturn, 1) := by decide +kernel
theorem own_pn_java_util_List : plainName "java/util/List" = true := by first | (simp [plainName, overriddenIn]; done) | decide +kernel
theorem own_d_jdk_56_method_3_code_0 : decode jdk_56_method_3_code 0 = .ok (.aload_n 0, 1) := by decide +kernel
theorem own_d_jdk_56_method_3_code_1 : decode jdk_56_method_3_code 1 = .ok (.instanceof 10, 3) := by decide +kernel
theorem own_d_jdk_56_method_3_code_4 : decode jdk_56_method_3_code 4 = .ok (.ifCond .ne 22, 3) := by decide +kernel
theorem own_d_jdk_56_method_3_code_7 : decode jdk_56_method_3_code 7 = .ok (.aload_n 0, 1) := by decide +kernel
theorem own_d_jdk_56_method_3_code_8 : decode jdk_56_method_3_code 8 = .ok (.instanceof 12, 3) := by decide +kernel
theorem own_d_jdk_56_method_3_code_11 : decode jdk_56_method_3_code 11 = .ok (.ifCond .eq 20, 3) := by decide +kernel
theorem own_d_jdk_56_method_3_code_31 : decode jdk_56_method_3_code 31 = .ok (.aload_n 0, 1) := by decide +kernel
theorem own_d_jdk_56_method_3_code_32 : decode jdk_56_method_3_code 32 = .ok (.invokeinterface 20 1, 5) := by decide +kernel
theorem own_d_jdk_56_method_3_code_37 : decode jdk_56_method_3_code 37 = .ok (.ifCond .eq 7, 3) := by decide +kernel
theorem own_d_jdk_56_method_3_code_44 : decode jdk_56_method_3_code 44 = .ok (.aload_n 0, 1) := by decide +kernel
theorem own_d_jdk_56_method_3_code_45 : decode jdk_56_method_3_code 45 = .ok (.invokeinterface 30 1, 5) := by decide +kernel
theorem own_d_jdk_56_method_3_code_50 : decode jdk_56_method_3_code 50 = .ok (.invokestatic 34, 3) := by decide +kernel
theorem own_d_jdk_56_method_3_code_53 : decode jdk_56_method_3_code 53 = .ok (.areturn, 1) := by decide +kernel
theorem own_pn_java_util_ImmutableCollections : plainName "java/util/ImmutableCollections" = true := by first | (simp [plainName, overriddenIn]; done) | decide +kernel
theorem own_d_jdk_40_method_48_code_0 : decode jdk_40_method_48_code 0 = .ok (.aload_n 0, 1) := by decide +kernel
theorem own_d_jdk_40_method_48_code_1 : decode jdk_40_method_48_code 1 = .ok (.invokestatic 112, 3) := by decide +kernel
theorem own_d_jdk_40_method_48_code_4 : decode jdk_40_method_48_code 4 = .ok (.areturn, 1) := by decide +kernel
theorem own_d_jdk_65_method_121_code_0 : decode jdk_65_method_121_code 0 = .ok (.iload_n 1, 1) := by decide +kernel
theorem own_d_jdk_65_method_121_code_1 : decode jdk_65_method_121_code 1 = .ok (.aload_n 0, 1) := by decide +kernel
theorem own_d_jdk_65_method_121_code_2 : decode jdk_65_method_121_code 2 = .ok (.arraylength, 1) := by decide +kernel
theorem own_d_jdk_65_method_121_code_3 : decode jdk_65_method_121_code 3 = .ok (.if_icmp .ne 11, 3) := by decide +kernel
theorem own_d_jdk_65_method_121_code_14 : decode jdk_65_method_121_code 14 = .ok (.iload_n 1, 1) := by decide +kernel
theorem own_d_jdk_65_method_121_code_15 : decode jdk_65_method_121_code 15 = .ok (.newarray .byte, 2) := by decide +kernel
theorem own_d_jdk_65_method_121_code_17 : decode jdk_65_method_121_code 17 = .ok (.astore_n 2, 1) := by decide +kernel
theorem own_d_jdk_65_method_121_code_18 : decode jdk_65_method_121_code 18 = .ok (.aload_n 0, 1) := by decide +kernel
theorem own_d_jdk_65_method_121_code_19 : decode jdk_65_method_121_code 19 = .ok (.iconst 0, 1) := by decide +kernel
theorem own_d_jdk_65_method_121_code_20 : decode jdk_65_method_121_code 20 = .ok (.aload_n 2, 1) := by decide +kernel
theorem own_d_jdk_65_method_121_code_21 : decode jdk_65_method_121_code 21 = .ok (.iconst 0, 1) := by decide +kernel
theorem own_d_jdk_65_method_121_code_22 : decode jdk_65_method_121_code 22 = .ok (.aload_n 0, 1) := by decide +kernel
theorem own_d_jdk_65_method_121_code_23 : decode jdk_65_method_121_code 23 = .ok (.arraylength, 1) := by decide +kernel
theorem own_d_jdk_65_method_121_code_24 : decode jdk_65_method_121_code 24 = .ok (.iload_n 1, 1) := by decide +kernel
theorem own_d_jdk_65_method_121_code_25 : decode jdk_65_method_121_code 25 = .ok (.invokestatic 304, 3) := by decide +kernel
theorem own_d_jdk_65_method_121_code_28 : decode jdk_65_method_121_code 28 = .ok (.invokestatic 150, 3) := by decide +kernel
theorem own_d_jdk_65_method_121_code_31 : decode jdk_65_method_121_code 31 = .ok (.aload_n 2, 1) := by decide +kernel
theorem own_d_jdk_65_method_121_code_32 : decode jdk_65_method_121_code 32 = .ok (.areturn, 1) := by decide +kernel
theorem own_d_jdk_32_method_2_code_0 : decode jdk_32_method_2_code 0 = .ok (.aload_n 0, 1) := by decide +kernel
theorem own_d_jdk_32_method_2_code_1 : decode jdk_32_method_2_code 1 = .ok (.invokespecial 7, 3) := by decide +kernel
theorem own_d_jdk_32_method_2_code_4 : decode jdk_32_method_2_code 4 = .ok (.aload_n 0, 1) := by decide +kernel
theorem own_d_jdk_32_method_2_code_5 : decode jdk_32_method_2_code 5 = .ok (.aload_n 1, 1) := by decide +kernel
theorem own_d_jdk_32_method_2_code_6 : decode jdk_32_method_2_code 6 = .ok (.putfield 13, 3) := by decide +kernel
theorem own_d_jdk_32_method_2_code_9 : decode jdk_32_method_2_code 9 = .ok (.return_, 1) := by decide +kernel
theorem own_pn_java_util_Optional : plainName "java/util/Optional" = true := by first | (simp [plainName, overriddenIn]; done) | decide +kernel
theorem own_d_jdk_32_method_3_code_0 : decode jdk_32_method_3_code 0 = .ok (.new 2, 3) := by decide +kernel
theorem own_d_jdk_32_method_3_code_3 : decode jdk_32_method_3_code 3 = .ok (.dup, 1) := by decide +kernel
theorem own_d_jdk_32_method_3_code_4 : decode jdk_32_method_3_code 4 = .ok (.aload_n 0, 1) := by decide +kernel
theorem own_d_jdk_32_method_3_code_5 : decode jdk_32_method_3_code 5 = .ok (.invokestatic 17, 3) := by decide +kernel
theorem own_d_jdk_32_method_3_code_8 : decode jdk_32_method_3_code 8 = .ok (.invokespecial 23, 3) := by decide +kernel
theorem own_d_jdk_32_method_3_code_11 : decode jdk_32_method_3_code 11 = .ok (.areturn, 1) := by decide +kernel
theorem own_d_jdk_32_method_15_code_0 : decode jdk_32_method_15_code 0 = .ok (.aload_n 0, 1) := by decide +kernel
theorem own_d_jdk_32_method_15_code_1 : decode jdk_32_method_15_code 1 = .ok (.getfield 13, 3) := by decide +kernel
theorem own_d_jdk_32_method_15_code_4 : decode jdk_32_method_15_code 4 = .ok (.ifnull 10, 3) := by decide +kernel
theorem own_d_jdk_32_method_15_code_14 : decode jdk_32_method_15_code 14 = .ok (.aload_n 1, 1) := by decide +kernel
theorem own_d_jdk_32_method_15_code_15 : decode jdk_32_method_15_code 15 = .ok (.areturn, 1) := by decide +kernel
theorem own_d_jdk_32_method_6_code_0 : decode jdk_32_method_6_code 0 = .ok (.aload_n 0, 1) := by decide +kernel
theorem own_d_jdk_32_method_6_code_1 : decode jdk_32_method_6_code 1 = .ok (.getfield 13, 3) := by decide +kernel
theorem own_d_jdk_32_method_6_code_4 : decode jdk_32_method_6_code 4 = .ok (.ifnull 7, 3) := by decide +kernel
theorem own_d_jdk_32_method_6_code_11 : decode jdk_32_method_6_code 11 = .ok (.iconst 0, 1) := by decide +kernel
theorem own_d_jdk_32_method_6_code_12 : decode jdk_32_method_6_code 12 = .ok (.ireturn, 1) := by decide +kernel
theorem own_d_jdk_32_method_15_code_7 : decode jdk_32_method_15_code 7 = .ok (.aload_n 0, 1) := by decide +kernel
theorem own_d_jdk_32_method_15_code_8 : decode jdk_32_method_15_code 8 = .ok (.getfield 13, 3) := by decide +kernel
theorem own_d_jdk_32_method_15_code_11 : decode jdk_32_method_15_code 11 = .ok (.goto 4, 3) := by decide +kernel
theorem own_d_jdk_32_method_6_code_7 : decode jdk_32_method_6_code 7 = .ok (.iconst 1, 1) := by decide +kernel
theorem own_d_jdk_32_method_6_code_8 : decode jdk_32_method_6_code 8 = .ok (.goto 4, 3) := by decide +kernel
theorem own_d_prog_24_method_2_code_0 : decode prog_24_method_2_code 0 = .ok (.aload_n 0, 1) := by decide +kernel
theorem own_d_prog_24_method_2_code_1 : decode prog_24_method_2_code 1 = .ok (.invokespecial 11, 3) := by decide +kernel
theorem own_d_prog_24_method_2_code_4 : decode prog_24_method_2_code 4 = .ok (.aload_n 0, 1) := by decide +kernel
theorem own_d_prog_24_method_2_code_5 : decode prog_24_method_2_code 5 = .ok (.aload_n 1, 1) := by decide +kernel
theorem own_d_prog_24_method_2_code_6 : decode prog_24_method_2_code 6 = .ok (.putfield 16, 3) := by decide +kernel
theorem own_d_prog_24_method_2_code_9 : decode prog_24_method_2_code 9 = .ok (.aload_n 0, 1) := by decide +kernel
theorem own_d_prog_24_method_2_code_10 : decode prog_24_method_2_code 10 = .ok (.aload_n 2, 1) := by decide +kernel
theorem own_d_prog_24_method_2_code_11 : decode prog_24_method_2_code 11 = .ok (.putfield 20, 3) := by decide +kernel
theorem own_d_prog_24_method_2_code_14 : decode prog_24_method_2_code 14 = .ok (.return_, 1) := by decide +kernel
theorem own_d_jdk_29_method_70_code_0 : decode jdk_29_method_70_code 0 = .ok (.lload_n 0, 1) := by decide +kernel
theorem own_d_jdk_29_method_70_code_1 : decode jdk_29_method_70_code 1 = .ok (.lload_n 2, 1) := by decide +kernel
theorem own_d_jdk_29_method_70_code_2 : decode jdk_29_method_70_code 2 = .ok (.lcmp, 1) := by decide +kernel
theorem own_d_jdk_29_method_70_code_3 : decode jdk_29_method_70_code 3 = .ok (.ifCond .gt 7, 3) := by decide +kernel
theorem own_d_jdk_29_method_70_code_10 : decode jdk_29_method_70_code 10 = .ok (.lload_n 2, 1) := by decide +kernel
theorem own_d_jdk_29_method_70_code_11 : decode jdk_29_method_70_code 11 = .ok (.lreturn, 1) := by decide +kernel
theorem own_d_jdk_29_method_70_code_6 : decode jdk_29_method_70_code 6 = .ok (.lload_n 0, 1) := by decide +kernel
theorem own_d_jdk_29_method_70_code_7 : decode jdk_29_method_70_code 7 = .ok (.goto 4, 3) := by decide +kernel
theorem own_d_prog_27_method_9_code_0 : decode prog_27_method_9_code 0 = .ok (.aload_n 0, 1) := by decide +kernel
theorem own_d_prog_27_method_9_code_1 : decode prog_27_method_9_code 1 = .ok (.getfield 35, 3) := by decide +kernel
theorem own_d_prog_27_method_9_code_4 : decode prog_27_method_9_code 4 = .ok (.ifnonnull 10, 3) := by decide +kernel
theorem own_d_prog_27_method_9_code_7 : decode prog_27_method_9_code 7 = .ok (.aload_n 0, 1) := by decide +kernel
theorem own_d_prog_27_method_9_code_8 : decode prog_27_method_9_code 8 = .ok (.getfield 25, 3) := by decide +kernel
theorem own_d_prog_27_method_9_code_11 : decode prog_27_method_9_code 11 = .ok (.goto 9, 3) := by decide +kernel
theorem own_d_prog_27_method_9_code_20 : decode prog_27_method_9_code 20 = .ok (.lreturn, 1) := by decide +kernel
theorem own_pn_com_example_lockstitch_lockstitch_engine_tree_SyncToken : plainName "com/example/lockstitch/lockstitch/engine/tree/SyncToken" = true := by first | (simp [plainName, overriddenIn]; done) | decide +kernel
theorem own_d_prog_27_method_9_code_14 : decode prog_27_method_9_code 14 = .ok (.aload_n 0, 1) := by decide +kernel
theorem own_d_prog_27_method_9_code_15 : decode prog_27_method_9_code 15 = .ok (.getfield 25, 3) := by decide +kernel
theorem own_d_prog_27_method_9_code_18 : decode prog_27_method_9_code 18 = .ok (.lconst 1, 1) := by decide +kernel
theorem own_d_prog_27_method_9_code_19 : decode prog_27_method_9_code 19 = .ok (.lsub, 1) := by decide +kernel
theorem own_d_prog_27_method_12_code_0 : decode prog_27_method_12_code 0 = .ok (.aload_n 0, 1) := by decide +kernel
theorem own_d_prog_27_method_12_code_1 : decode prog_27_method_12_code 1 = .ok (.getfield 57, 3) := by decide +kernel
theorem own_d_prog_27_method_12_code_4 : decode prog_27_method_12_code 4 = .ok (.lreturn, 1) := by decide +kernel
theorem own_d_prog_27_method_2_code_0 : decode prog_27_method_2_code 0 = .ok (.aload_n 0, 1) := by decide +kernel
theorem own_d_prog_27_method_2_code_1 : decode prog_27_method_2_code 1 = .ok (.invokespecial 13, 3) := by decide +kernel
theorem own_d_prog_27_method_2_code_4 : decode prog_27_method_2_code 4 = .ok (.aload_n 0, 1) := by decide +kernel
theorem own_d_prog_27_method_2_code_5 : decode prog_27_method_2_code 5 = .ok (.aload_n 1, 1) := by decide +kernel
theorem own_d_prog_27_method_2_code_6 : decode prog_27_method_2_code 6 = .ok (.putfield 18, 3) := by decide +kernel
theorem own_d_prog_27_method_2_code_9 : decode prog_27_method_2_code 9 = .ok (.aload_n 0, 1) := by decide +kernel
theorem own_d_prog_27_method_2_code_10 : decode prog_27_method_2_code 10 = .ok (.aload_n 2, 1) := by decide +kernel
theorem own_d_prog_27_method_2_code_11 : decode prog_27_method_2_code 11 = .ok (.putfield 22, 3) := by decide +kernel
theorem own_d_prog_27_method_2_code_14 : decode prog_27_method_2_code 14 = .ok (.aload_n 0, 1) := by decide +kernel
theorem own_d_prog_27_method_2_code_15 : decode prog_27_method_2_code 15 = .ok (.lload_n 3, 1) := by decide +kernel
theorem own_d_prog_27_method_2_code_16 : decode prog_27_method_2_code 16 = .ok (.putfield 25, 3) := by decide +kernel
theorem own_d_prog_27_method_2_code_19 : decode prog_27_method_2_code 19 = .ok (.aload_n 0, 1) := by decide +kernel
theorem own_d_prog_27_method_2_code_20 : decode prog_27_method_2_code 20 = .ok (.aload 5, 2) := by decide +kernel
theorem own_d_prog_27_method_2_code_22 : decode prog_27_method_2_code 22 = .ok (.aconst_null, 1) := by decide +kernel
theorem own_d_prog_27_method_2_code_23 : decode prog_27_method_2_code 23 = .ok (.invokevirtual 29, 3) := by decide +kernel
theorem own_d_prog_27_method_2_code_26 : decode prog_27_method_2_code 26 = .ok (.checkcast 33, 3) := by decide +kernel
theorem own_d_prog_27_method_2_code_29 : decode prog_27_method_2_code 29 = .ok (.putfield 35, 3) := by decide +kernel
theorem own_d_prog_27_method_2_code_32 : decode prog_27_method_2_code 32 = .ok (.aload_n 0, 1) := by decide +kernel
theorem own_d_prog_27_method_2_code_33 : decode prog_27_method_2_code 33 = .ok (.iload 6, 2) := by decide +kernel
theorem own_d_prog_27_method_2_code_35 : decode prog_27_method_2_code 35 = .ok (.ifCond .eq 15, 3) := by decide +kernel
theorem own_d_prog_27_method_2_code_50 : decode prog_27_method_2_code 50 = .ok (.iconst 0, 1) := by decide +kernel
theorem own_d_prog_27_method_2_code_51 : decode prog_27_method_2_code 51 = .ok (.putfield 43, 3) := by decide +kernel
theorem own_d_prog_27_method_2_code_54 : decode prog_27_method_2_code 54 = .ok (.aload_n 0, 1) := by decide +kernel
theorem own_d_prog_27_method_2_code_55 : decode prog_27_method_2_code 55 = .ok (.lload 7, 2) := by decide +kernel
theorem own_d_prog_27_method_2_code_57 : decode prog_27_method_2_code 57 = .ok (.aload_n 0, 1) := by decide +kernel
theorem own_d_prog_27_method_2_code_58 : decode prog_27_method_2_code 58 = .ok (.invokevirtual 47, 3) := by decide +kernel
theorem own_d_prog_27_method_2_code_61 : decode prog_27_method_2_code 61 = .ok (.invokestatic 51, 3) := by decide +kernel
theorem own_d_prog_27_method_2_code_64 : decode prog_27_method_2_code 64 = .ok (.putfield 57, 3) := by decide +kernel
theorem own_d_prog_27_method_2_code_67 : decode prog_27_method_2_code 67 = .ok (.return_, 1) := by decide +kernel
theorem own_d_prog_27_method_2_code_38 : decode prog_27_method_2_code 38 = .ok (.aload 5, 2) := by decide +kernel
theorem own_d_prog_27_method_2_code_40 : decode prog_27_method_2_code 40 = .ok (.invokevirtual 39, 3) := by decide +kernel
theorem own_d_prog_27_method_2_code_43 : decode prog_27_method_2_code 43 = .ok (.ifCond .eq 7, 3) := by decide +kernel
theorem own_d_prog_27_method_2_code_46 : decode prog_27_method_2_code 46 = .ok (.iconst 1, 1) := by decide +kernel
theorem own_d_prog_27_method_2_code_47 : decode prog_27_method_2_code 47 = .ok (.goto 4, 3) := by decide +kernel
theorem own_d_jdk_32_method_1_code_0 : decode jdk_32_method_1_code 0 = .ok (.getstatic 1, 3) := by decide +kernel
theorem own_d_jdk_32_method_1_code_3 : decode jdk_32_method_1_code 3 = .ok (.astore_n 0, 1) := by decide +kernel
theorem own_d_jdk_32_method_1_code_4 : decode jdk_32_method_1_code 4 = .ok (.aload_n 0, 1) := by decide +kernel
theorem own_d_jdk_32_method_1_code_5 : decode jdk_32_method_1_code 5 = .ok (.areturn, 1) := by decide +kernel
theorem own_d_prog_24_method_4_code_0 : decode prog_24_method_4_code 0 = .ok (.getstatic 67, 3) := by decide +kernel
theorem own_d_prog_24_method_4_code_3 : decode prog_24_method_4_code 3 = .ok (.areturn, 1) := by decide +kernel
theorem own_d_prog_24_method_6_code_0 : decode prog_24_method_6_code 0 = .ok (.aload_n 1, 1) := by decide +kernel
theorem own_d_prog_24_method_6_code_1 : decode prog_24_method_6_code 1 = .ok (.getstatic 45, 3) := by decide +kernel
theorem own_d_prog_24_method_6_code_4 : decode prog_24_method_6_code 4 = .ok (.invokevirtual 51, 3) := by decide +kernel
theorem own_d_prog_24_method_6_code_7 : decode prog_24_method_6_code 7 = .ok (.astore_n 2, 1) := by decide +kernel
theorem own_d_prog_24_method_6_code_8 : decode prog_24_method_6_code 8 = .ok (.aload_n 1, 1) := by decide +kernel
theorem own_d_prog_24_method_6_code_9 : decode prog_24_method_6_code 9 = .ok (.aload_n 2, 1) := by decide +kernel
theorem own_d_prog_24_method_6_code_10 : decode prog_24_method_6_code 10 = .ok (.arraylength, 1) := by decide +kernel
theorem own_d_prog_24_method_6_code_11 : decode prog_24_method_6_code 11 = .ok (.invokestatic 92, 3) := by decide +kernel
theorem own_d_prog_24_method_6_code_14 : decode prog_24_method_6_code 14 = .ok (.ifCond .ne 7, 3) := by decide +kernel
theorem own_d_prog_24_method_6_code_21 : decode prog_24_method_6_code 21 = .ok (.new 95, 3) := by decide +kernel
theorem own_d_prog_24_method_6_code_24 : decode prog_24_method_6_code 24 = .ok (.dup, 1) := by decide +kernel
theorem own_d_prog_24_method_6_code_25 : decode prog_24_method_6_code 25 = .ok (.aload_n 0, 1) := by decide +kernel
theorem own_d_prog_24_method_6_code_26 : decode prog_24_method_6_code 26 = .ok (.getfield 16, 3) := by decide +kernel
theorem own_d_prog_24_method_6_code_29 : decode prog_24_method_6_code 29 = .ok (.invokeinterface 97 1, 5) := by decide +kernel
theorem own_d_prog_24_method_6_code_34 : decode prog_24_method_6_code 34 = .ok (.iconst 1, 1) := by decide +kernel
theorem own_d_prog_24_method_6_code_35 : decode prog_24_method_6_code 35 = .ok (.iadd, 1) := by decide +kernel
theorem own_d_prog_24_method_6_code_36 : decode prog_24_method_6_code 36 = .ok (.invokespecial 101, 3) := by decide +kernel
theorem own_d_prog_24_method_6_code_39 : decode prog_24_method_6_code 39 = .ok (.astore_n 3, 1) := by decide +kernel
theorem own_d_prog_24_method_6_code_40 : decode prog_24_method_6_code 40 = .ok (.aload_n 3, 1) := by decide +kernel
theorem own_d_prog_24_method_6_code_41 : decode prog_24_method_6_code 41 = .ok (.aload_n 0, 1) := by decide +kernel
theorem own_d_prog_24_method_6_code_42 : decode prog_24_method_6_code 42 = .ok (.getfield 16, 3) := by decide +kernel
theorem own_d_prog_24_method_6_code_45 : decode prog_24_method_6_code 45 = .ok (.invokeinterface 103 2, 5) := by decide +kernel
theorem own_d_prog_24_method_6_code_50 : decode prog_24_method_6_code 50 = .ok (.pop, 1) := by decide +kernel
theorem own_d_prog_24_method_6_code_51 : decode prog_24_method_6_code 51 = .ok (.aload_n 3, 1) := by decide +kernel
theorem own_d_prog_24_method_6_code_52 : decode prog_24_method_6_code 52 = .ok (.aload_n 1, 1) := by decide +kernel
theorem own_d_prog_24_method_6_code_53 : decode prog_24_method_6_code 53 = .ok (.invokeinterface 107 2, 5) := by decide +kernel
theorem own_d_prog_24_method_6_code_58 : decode prog_24_method_6_code 58 = .ok (.pop, 1) := by decide +kernel
theorem own_d_prog_24_method_6_code_59 : decode prog_24_method_6_code 59 = .ok (.aload_n 0, 1) := by decide +kernel
theorem own_d_prog_24_method_6_code_60 : decode prog_24_method_6_code 60 = .ok (.getfield 20, 3) := by decide +kernel
theorem own_d_prog_24_method_6_code_63 : decode prog_24_method_6_code 63 = .ok (.aload_n 0, 1) := by decide +kernel
theorem own_d_prog_24_method_6_code_64 : decode prog_24_method_6_code 64 = .ok (.getfield 20, 3) := by decide +kernel
theorem own_d_prog_24_method_6_code_67 : decode prog_24_method_6_code 67 = .ok (.arraylength, 1) := by decide +kernel
theorem own_d_prog_24_method_6_code_68 : decode prog_24_method_6_code 68 = .ok (.aload_n 2, 1) := by decide +kernel
theorem own_d_prog_24_method_6_code_69 : decode prog_24_method_6_code 69 = .ok (.arraylength, 1) := by decide +kernel
theorem own_d_prog_24_method_6_code_70 : decode prog_24_method_6_code 70 = .ok (.iadd, 1) := by decide +kernel
theorem own_d_prog_24_method_6_code_71 : decode prog_24_method_6_code 71 = .ok (.iconst 1, 1) := by decide +kernel
theorem own_d_prog_24_method_6_code_72 : decode prog_24_method_6_code 72 = .ok (.iadd, 1) := by decide +kernel
theorem own_d_prog_24_method_6_code_73 : decode prog_24_method_6_code 73 = .ok (.invokestatic 111, 3) := by decide +kernel
theorem own_d_prog_24_method_6_code_76 : decode prog_24_method_6_code 76 = .ok (.astore 4, 2) := by decide +kernel
theorem own_d_prog_24_method_6_code_78 : decode prog_24_method_6_code 78 = .ok (.aload_n 2, 1) := by decide +kernel
theorem own_d_prog_24_method_6_code_79 : decode prog_24_method_6_code 79 = .ok (.iconst 0, 1) := by decide +kernel
theorem own_d_prog_24_method_6_code_80 : decode prog_24_method_6_code 80 = .ok (.aload 4, 2) := by decide +kernel
theorem own_d_prog_24_method_6_code_82 : decode prog_24_method_6_code 82 = .ok (.aload_n 0, 1) := by decide +kernel
theorem own_d_prog_24_method_6_code_83 : decode prog_24_method_6_code 83 = .ok (.getfield 20, 3) := by decide +kernel
theorem own_d_prog_24_method_6_code_86 : decode prog_24_method_6_code 86 = .ok (.arraylength, 1) := by decide +kernel
theorem own_d_prog_24_method_6_code_87 : decode prog_24_method_6_code 87 = .ok (.aload_n 2, 1) := by decide +kernel
theorem own_d_prog_24_method_6_code_88 : decode prog_24_method_6_code 88 = .ok (.arraylength, 1) := by decide +kernel
theorem own_d_prog_24_method_6_code_89 : decode prog_24_method_6_code 89 = .ok (.invokestatic 116, 3) := by decide +kernel
theorem own_d_prog_24_method_6_code_92 : decode prog_24_method_6_code 92 = .ok (.aload 4, 2) := by decide +kernel
theorem own_d_prog_24_method_6_code_94 : decode prog_24_method_6_code 94 = .ok (.aload 4, 2) := by decide +kernel
theorem own_d_prog_24_method_6_code_96 : decode prog_24_method_6_code 96 = .ok (.arraylength, 1) := by decide +kernel
theorem own_d_prog_24_method_6_code_97 : decode prog_24_method_6_code 97 = .ok (.iconst 1, 1) := by decide +kernel
theorem own_d_prog_24_method_6_code_98 : decode prog_24_method_6_code 98 = .ok (.isub, 1) := by decide +kernel
theorem own_d_prog_24_method_6_code_99 : decode prog_24_method_6_code 99 = .ok (.iconst 0, 1) := by decide +kernel
theorem own_d_prog_24_method_6_code_100 : decode prog_24_method_6_code 100 = .ok (.bastore, 1) := by decide +kernel
theorem own_d_prog_24_method_6_code_101 : decode prog_24_method_6_code 101 = .ok (.new 2, 3) := by decide +kernel
theorem own_d_prog_24_method_6_code_104 : decode prog_24_method_6_code 104 = .ok (.dup, 1) := by decide +kernel
theorem own_d_prog_24_method_6_code_105 : decode prog_24_method_6_code 105 = .ok (.aload_n 3, 1) := by decide +kernel
theorem own_d_prog_24_method_6_code_106 : decode prog_24_method_6_code 106 = .ok (.invokestatic 81, 3) := by decide +kernel
theorem own_d_prog_24_method_6_code_109 : decode prog_24_method_6_code 109 = .ok (.aload 4, 2) := by decide +kernel
theorem own_d_prog_24_method_6_code_111 : decode prog_24_method_6_code 111 = .ok (.invokespecial 7, 3) := by decide +kernel
theorem own_d_prog_24_method_6_code_114 : decode prog_24_method_6_code 114 = .ok (.invokestatic 88, 3) := by decide +kernel
theorem own_d_prog_24_method_6_code_117 : decode prog_24_method_6_code 117 = .ok (.areturn, 1) := by decide +kernel
theorem own_d_prog_24_method_6_code_17 : decode prog_24_method_6_code 17 = .ok (.invokestatic 75, 3) := by decide +kernel
theorem own_d_prog_24_method_6_code_20 : decode prog_24_method_6_code 20 = .ok (.areturn, 1) := by decide +kernel
theorem own_pn_com_example_lockstitch_lockstitch_engine_tree_SyncTokenWholeUpToPinLaw : plainName "com/example/lockstitch/lockstitch/engine/tree/SyncTokenWholeUpToPinLaw" = true := by first | (simp [plainName, overriddenIn]; done) | decide +kernel
def own_S1 (Z : State) (h : Heap) (a : Addr) (b : Int32) : Prop := ∃ (t : Addr) (kb : ClassId), Exa Z h a "java/lang/String" ∧ Fld Z h a "java/lang/String" "value" "[B" (.ref t) ∧ Fld Z h a "java/lang/String" "coder" "B" (.int (0 : Int32)) ∧ Arv Z h t kb .byte (1 : Int32) [.int b] (.int (0 : Int32)) ∧ Z.vm.findClass "[B" = some kb
theorem own_arr0 {args : Array Value} {s : State} {t : Term} {a : Addr} {ty : FieldType} (hf : Fit s) (ev : t.eval args s none [] s = some (.ref a)) (h : (Jvm.Cond.arrayOf t ty).value args s none s [] = some true) (hl : (Jvm.Cond.eq (.length t) (.int 0)).value args s none s [] = some true) : ∃ k, Arv s s.heap a k ty (0 : Int32) [] (.null) := by
  obtain ⟨cl, A⟩ := Arr.start ev h
  have ha := Arr.fin (Vm.Alike.refl _) A
  have hsz : cl.slots.size = 0 := by
    by_cases q : cl.slots.size < 2 ^ 31
    · have e := len_f ev ha q
      have e2 : cl.slots.size.toInt32 = (0 : Int32) := gotT (Cond.eq_ints e (Term.int_eval (0))) hl
      have e3 := len_toInt q
      rw [e2] at e3
      have e4 : (0 : Int32).toInt = 0 := rfl
      omega
    · simp [Cond.value, Term.eval, ev, ha, q] at hl
  exact ⟨cl.cls, Arv.start hf A (by omega) (by rw [hsz]; rfl) (by decide) (by decide) trivial⟩
set_option maxRecDepth 65536 in
set_option maxHeartbeats 40000000 in
theorem own_rnn (l : Launch) (Z : State) (a0 : Array Value) (hw : ∀ d ∈ tables_1, d.before a0 Z = true) (a1 : Addr) (h0 : Heap) (n0 : Nat)  :
    own_Met l (⟨"java/util/Objects", "requireNonNull", "(Ljava/lang/Object;)Ljava/lang/Object;"⟩ : MethodName) jdk_31_method_10_code 1 (some (.object "java/lang/Object")) ({ frames := 0, cells := 0, slots := 0, locals := 0 } : Room) Z #[(.ref a1)] h0 (fun v h L => v = some (.ref a1) ∧ Fr n0 L ∧ h = h0) := by
  refine own_met (plainFor_of_name own_pn_java_util_Objects) ?_
  intro p e s m below meth c T0 hx hby hml hZ hown hnm hret hlocks X0 e0 hh0
  have ef : entryFrame m #[(.ref a1)] 1 = mkF m 0 #[.val (.ref a1)] [] := by first | (simp [entryFrame, mkF, argsToLocals, Value.category]; done) | rfl
  refine own_entry ef ?_
  have N0 := Fr.nil n0
  refine own_aloadN X0 hx (hb hby own_d_jdk_31_method_10_code_0) rfl rfl rfl ?_
  refine own_ifnonnullT X0 hx (hb hby own_d_jdk_31_method_10_code_1) (by decide) rfl ?_
  refine own_aloadN X0 hx (hb hby own_d_jdk_31_method_10_code_12) rfl rfl rfl ?_
  exact own_retA X0 hx hlocks hret rfl rfl (hb hby own_d_jdk_31_method_10_code_13) (by decide) (by decide) ⟨rfl, N0, e0⟩
theorem own_lo8 (c : Int32) : (c.toInt8.toInt32).toInt8.toInt32 = c.toInt8.toInt32 := by simp
set_option maxRecDepth 65536 in
set_option maxHeartbeats 40000000 in
theorem own_canEnc (l : Launch) (Z : State) (a0 : Array Value) (hw : ∀ d ∈ tables_1, d.before a0 Z = true) (ch : Int32) (h0 : Heap) (n0 : Nat) (hc : ¬ ch < 0 ∧ ¬ (255 : Int32) < ch) :
    own_Met l (⟨"java/lang/StringLatin1", "canEncode", "(C)Z"⟩ : MethodName) jdk_43_method_3_code 1 (some .boolean) ({ frames := 0, cells := 0, slots := 0, locals := 0 } : Room) Z #[(.int ch)] h0 (fun v h L => v = some (.int 1) ∧ Fr n0 L ∧ h = h0) := by
  refine own_met (plainFor_of_name own_pn_java_lang_StringLatin1) ?_
  intro p e s m below meth c T0 hx hby hml hZ hown hnm hret hlocks X0 e0 hh0
  have ef : entryFrame m #[(.int ch)] 1 = mkF m 0 #[.val (.int ch)] [] := by first | (simp [entryFrame, mkF, argsToLocals, Value.category]; done) | rfl
  refine own_entry ef ?_
  have N0 := Fr.nil n0
  refine own_iloadN X0 hx (hb hby own_d_jdk_43_method_3_code_0) rfl rfl ?_
  refine own_sipush X0 hx (255 : Int32) (hb hby own_d_jdk_43_method_3_code_1) (by decide) rfl ?_
  refine own_icmpF X0 hx (hb hby own_d_jdk_43_method_3_code_4) rfl (flt hc.2).2.2.1 ?_
  refine own_iconst X0 hx (1 : Int32) (hb hby own_d_jdk_43_method_3_code_7) (by decide) rfl ?_
  refine own_goto X0 hx (hb hby own_d_jdk_43_method_3_code_8) (by decide) rfl ?_
  exact own_retN X0 hx hlocks hret (by simp) (hb hby own_d_jdk_43_method_3_code_12) (by decide) (by decide) (by decide) ⟨rfl, N0, e0⟩
set_option maxRecDepth 65536 in
set_option maxHeartbeats 40000000 in
theorem own_toBytes (l : Launch) (Z : State) (a0 : Array Value) (hw : ∀ d ∈ tables_1, d.before a0 Z = true) (ch : Int32) (h0 : Heap) (n0 : Nat) (Z0 : n0 ≤ h0.size) :
    own_Met l (⟨"java/lang/StringLatin1", "toBytes", "(C)[B"⟩ : MethodName) jdk_43_method_46_code 1 (some (.array .byte)) ({ frames := 0, cells := 1, slots := 1, locals := 0 } : Room) Z #[(.int ch)] h0 (fun v h L => ∃ (b : Addr) (k : ClassId), v = some (.ref b) ∧ Fr n0 L ∧ Keep h0 h [] ∧ n0 ≤ b ∧ h0.size ≤ b ∧ Arv Z h b k .byte (1 : Int32) [.int (ch.toInt8.toInt32)] (.int (0 : Int32)) ∧ Z.vm.findClass "[B" = some k) := by
  refine own_met (plainFor_of_name own_pn_java_lang_StringLatin1) ?_
  intro p e s m below meth c T0 hx hby hml hZ hown hnm hret hlocks X0 e0 hh0
  have ef : entryFrame m #[(.int ch)] 1 = mkF m 0 #[.val (.int ch)] [] := by first | (simp [entryFrame, mkF, argsToLocals, Value.category]; done) | rfl
  refine own_entry ef ?_
  have N0 := Fr.nil n0
  have K0 := Keep.refl h0 []
  refine own_iconst X0 hx (1 : Int32) (hb hby own_d_jdk_43_method_46_code_0) (by decide) rfl ?_
  refine own_newPB X0 hx hZ (hw _ (List.mem_of_getElem? (i := 6) rfl)) e0 (hb hby own_d_jdk_43_method_46_code_1) (by decide) 1 (by decide) (by decide) (by decide) (by decide) rfl ?_
  intro T1 h1 b1 k1 X1 e1 g1 E1 V1q CB1
  have g_b1 : n0 ≤ b1 := Nat.le_trans (Nat.le_trans Z0 K0.1) (Nat.le_of_eq g1.symm)
  have sz_b1 : h0.size ≤ b1 := Nat.le_trans K0.1 (Nat.le_of_eq g1.symm)
  have K2 := K0.ext E1
  have V1 : Arv Z h1 b1 k1 .byte (1 : Int32) [(.int (0 : Int32))] (.int (0 : Int32)) := Arv.pad V1q (pad_rep [] (.int (0 : Int32)) 1)
  refine own_dup X1 hx (hb hby own_d_jdk_43_method_46_code_3) rfl rfl ?_
  refine own_iconst X1 hx (0 : Int32) (hb hby own_d_jdk_43_method_46_code_4) (by decide) rfl ?_
  refine own_iloadN X1 hx (hb hby own_d_jdk_43_method_46_code_5) rfl rfl ?_
  refine own_i2b X1 hx (hb hby own_d_jdk_43_method_46_code_6) rfl ?_
  refine own_stB X1 hx hZ e1 V1 ⟨by decide, by decide⟩ 0 rfl (Nat.le_of_ble_eq_true rfl) (own_lo8 ch) N0 g_b1 (hb hby own_d_jdk_43_method_46_code_7) rfl ?_
  intro T3 h3 X3 e3 W3 N3 V3
  have K4 := K2.wr W3 (Or.inr sz_b1)
  exact own_retA X3 hx hlocks hret rfl rfl (hb hby own_d_jdk_43_method_46_code_8) (by decide) (by decide) ⟨b1, _, rfl, N3, by rw [e3]; exact ⟨K4, g_b1, sz_b1, V3, CB1⟩⟩
set_option maxRecDepth 65536 in
set_option maxHeartbeats 40000000 in
theorem own_sbb (l : Launch) (Z : State) (a0 : Array Value) (hw : ∀ d ∈ tables_1, d.before a0 Z = true) (a1 b1 : Addr) (h0 : Heap) (n0 : Nat) (g_a1 : n0 ≤ a1) (E0 : Exa Z h0 a1 "java/lang/String") (F1 : Fld Z h0 a1 "java/lang/String" "value" "[B" .null) (F2 : Fld Z h0 a1 "java/lang/String" "coder" "B" (.int (0 : Int32))) :
    own_Met l (⟨"java/lang/String", "<init>", "([BB)V"⟩ : MethodName) jdk_42_method_151_code 3 none ({ frames := 1, cells := 0, slots := 0, locals := 12 } : Room) Z #[(.ref a1), (.ref b1), (.int (0 : Int32))] h0 (fun v h L => v = none ∧ Fr n0 L ∧ Keep h0 h [a1] ∧ Exa Z h a1 "java/lang/String" ∧ Fld Z h a1 "java/lang/String" "value" "[B" (.ref b1) ∧ Fld Z h a1 "java/lang/String" "coder" "B" (.int (0 : Int32))) := by
  refine own_met (plainFor_of_name own_pn_java_lang_String) ?_
  intro p e s m below meth c T0 hx hby hml hZ hown hnm hret hlocks X0 e0 hh0
  have ef : entryFrame m #[(.ref a1), (.ref b1), (.int (0 : Int32))] 3 = mkF m 0 #[.val (.ref a1), .val (.ref b1), .val (.int (0 : Int32))] [] := by first | (simp [entryFrame, mkF, argsToLocals, Value.category]; done) | rfl
  refine own_entry ef ?_
  have N0 := Fr.nil n0
  have K0 := Keep.refl h0 [a1]
  refine own_aloadN X0 hx (hb hby own_d_jdk_42_method_151_code_0) rfl rfl rfl ?_
  refine own_initO X0 hx hZ hown (hw _ (List.mem_of_getElem? (i := 34) rfl)) (hw _ (List.mem_of_getElem? (i := 35) rfl)) (hw _ (List.mem_of_getElem? (i := 36) rfl)) e0 (by rw [hml]; rfl) (hb hby own_d_jdk_42_method_151_code_1) 0 rfl (by decide) (by decide) rfl ?_
  intro T1 X1 e1
  refine own_aloadN X1 hx (hb hby own_d_jdk_42_method_151_code_4) rfl rfl rfl ?_
  refine own_aloadN X1 hx (hb hby own_d_jdk_42_method_151_code_5) rfl rfl rfl ?_
  refine own_putF X1 hx hZ hown (host := "") (Or.inl (hw _ (List.mem_of_getElem? (i := 37) rfl))) Via.refl e1 F1 E0 (Or.inr ⟨(hw _ (List.mem_of_getElem? (i := 7) rfl)), rfl, hnm⟩) (hw _ (List.mem_of_getElem? (i := 5) rfl)) (ty := (.array .byte)) (by decide) rfl rfl N0 g_a1 (hb hby own_d_jdk_42_method_151_code_6) rfl ?_
  intro T2 h2 X2 e2 W2 N2
  have K3 := K0.wr W2 (Or.inl (List.mem_of_getElem? (i := 0) rfl))
  have f4 := F1.same W2
  refine own_aloadN X2 hx (hb hby own_d_jdk_42_method_151_code_9) rfl rfl rfl ?_
  refine own_iloadN X2 hx (hb hby own_d_jdk_42_method_151_code_10) rfl rfl ?_
  have f5 := (F2.other W2 (Or.inr (slot_ne (Or.inr (hw _ (List.mem_of_getElem? (i := 8) rfl))) (Or.inr (hw _ (List.mem_of_getElem? (i := 7) rfl))) (by decide) (t := .byte) (t' := (.array .byte)) (by decide) (by decide))))
  have f6 := (E0.wr W2)
  refine own_putFN X2 hx hZ hown (hw _ (List.mem_of_getElem? (i := 38) rfl)) Via.refl e2 (.int (0 : Int32)) f5 f6 (Or.inr ⟨(hw _ (List.mem_of_getElem? (i := 8) rfl)), rfl, hnm⟩) (hw _ (List.mem_of_getElem? (i := 5) rfl)) (ty := .byte) (by decide) rfl rfl N2 g_a1 (hb hby own_d_jdk_42_method_151_code_11) rfl ?_
  intro T7 h7 X7 e7 W7 N7
  have K8 := K3.wr W7 (Or.inl (List.mem_of_getElem? (i := 0) rfl))
  have f9 := f5.same W7
  have f10 := (f6.wr W7)
  have f11 := (f4.other W7 (Or.inr (slot_ne (Or.inr (hw _ (List.mem_of_getElem? (i := 7) rfl))) (Or.inr (hw _ (List.mem_of_getElem? (i := 8) rfl))) (by decide) (t := (.array .byte)) (t' := .byte) (by decide) (by decide))))
  exact own_ret X7 hx hlocks hret (hb hby own_d_jdk_42_method_151_code_14) (by decide) (by decide) ⟨rfl, N7, by rw [e7]; exact ⟨K8, f10, f11, f9⟩⟩
set_option maxRecDepth 65536 in
set_option maxHeartbeats 40000000 in
theorem own_valueOf (l : Launch) (Z : State) (a0 : Array Value) (hw : ∀ d ∈ tables_1, d.before a0 Z = true) (ch zc : Int32) (h0 : Heap) (n0 : Nat) (O0 : Old Z n0 h0) (SC : Sta Z Z.heap "java/lang/String" "COMPACT_STRINGS" "Z" (.int zc)) (hzc : ¬ zc = 0) (hc : ¬ ch < 0 ∧ ¬ (255 : Int32) < ch) :
    own_Met l (⟨"java/lang/String", "valueOf", "(C)Ljava/lang/String;"⟩ : MethodName) jdk_42_method_139_code 1 (some (.object "java/lang/String")) ({ frames := 2, cells := 2, slots := 5, locals := 27 } : Room) Z #[(.int ch)] h0 (fun v h L => ∃ a : Addr, v = some (.ref a) ∧ Fr n0 L ∧ Keep h0 h [] ∧ n0 ≤ a ∧ h0.size ≤ a ∧ own_S1 Z h a (ch.toInt8.toInt32)) := by
  refine own_met (plainFor_of_name own_pn_java_lang_String) ?_
  intro p e s m below meth c T0 hx hby hml hZ hown hnm hret hlocks X0 e0 hh0
  have ef : entryFrame m #[(.int ch)] 1 = mkF m 0 #[.val (.int ch)] [] := by first | (simp [entryFrame, mkF, argsToLocals, Value.category]; done) | rfl
  refine own_entry ef ?_
  have N0 := Fr.nil n0
  have K0 := Keep.refl h0 []
  have Z0 : n0 ≤ h0.size := O0.1 ▸ O0.2.1
  refine own_getS X0 hx hZ hown (host := "") (Or.inl (hw _ (List.mem_of_getElem? (i := 21) rfl))) Via.refl e0 (SC.ext O0.2) (hb hby own_d_jdk_42_method_139_code_0) rfl ?_
  intro T1 X1 e1
  refine own_ifF X1 hx (hb hby own_d_jdk_42_method_139_code_3) rfl (feq hzc).1 ?_
  refine own_iloadN X1 hx (hb hby own_d_jdk_42_method_139_code_6) rfl rfl ?_
  refine own_static X1 hx hZ (y := (⟨"java/lang/StringLatin1", "canEncode", "(C)Z"⟩ : MethodName)) hown (hw _ (List.mem_of_getElem? (i := 22) rfl)) (hw _ (List.mem_of_getElem? (i := 23) rfl)) (hw _ (List.mem_of_getElem? (i := 24) rfl)) (hw _ (List.mem_of_getElem? (i := 25) rfl)) (by decide) e1 (by decide) (W := 0) (by decide) (by decide) (by decide) [(.int ch)] [] (by rw [hml]; rfl) (own_canEnc l Z a0 hw ch h0 n0 hc) own_pd0 rfl rfl rfl (hb hby own_d_jdk_42_method_139_code_7) rfl ?_
  intro v2 T2 L2 X2 hQ2
  obtain ⟨rfl, Nq2, hh2⟩ := hQ2
  have N2 := Fr.app N0 Nq2
  show own_Ends p e below _ (T2.setTop (mkF m 10 #[.val (.int ch)] [(.int (1 : Int32))]))
  refine own_ifF X2 hx (hb hby own_d_jdk_42_method_139_code_10) rfl (by decide) ?_
  refine own_new X2 hx hZ hown (hw _ (List.mem_of_getElem? (i := 26) rfl)) (hw _ (List.mem_of_getElem? (i := 5) rfl)) (hw _ (List.mem_of_getElem? (i := 4) rfl)) hh2 (hb hby own_d_jdk_42_method_139_code_13) (by decide) (by decide) rfl ?_
  intro T3 h3 b3 X3 e3 g3 E3 A3 D3
  have g_b3 : n0 ≤ b3 := Nat.le_trans (own_oz O0) (Nat.le_of_eq g3.symm)
  have sz_b3 : h0.size ≤ b3 := Nat.le_trans K0.1 (Nat.le_of_eq g3.symm)
  have K4 := K0.ext E3
  have Fb3_value : Fld Z h3 b3 "java/lang/String" "value" "[B" .null := D3 (Or.inr (hw _ (List.mem_of_getElem? (i := 7) rfl))) (ty := (.array .byte)) (by decide)
  have Fb3_coder : Fld Z h3 b3 "java/lang/String" "coder" "B" (.int (0 : Int32)) := D3 (Or.inr (hw _ (List.mem_of_getElem? (i := 8) rfl))) (ty := .byte) (by decide)
  refine own_dup X3 hx (hb hby own_d_jdk_42_method_139_code_16) rfl rfl ?_
  refine own_iloadN X3 hx (hb hby own_d_jdk_42_method_139_code_17) rfl rfl ?_
  have f5 := (O0.ext E3)
  refine own_static X3 hx hZ (y := (⟨"java/lang/StringLatin1", "toBytes", "(C)[B"⟩ : MethodName)) hown (hw _ (List.mem_of_getElem? (i := 27) rfl)) (hw _ (List.mem_of_getElem? (i := 28) rfl)) (hw _ (List.mem_of_getElem? (i := 24) rfl)) (hw _ (List.mem_of_getElem? (i := 29) rfl)) (by decide) e3 (by decide) (W := 2) (by decide) (by decide) (by decide) [(.int ch)] [(.ref b3), (.ref b3)] (by rw [hml]; rfl) (own_toBytes l Z a0 hw ch h3 n0 (own_oz f5)) own_pd1 rfl rfl rfl (hb hby own_d_jdk_42_method_139_code_18) rfl ?_
  intro v6 T6 L6 X6 hQ6
  obtain ⟨b6, k6, rfl, Nq6, Kq6, g_b6, sz_b6, V6, CB6⟩ := hQ6
  have sz_b6 := Nat.le_trans K4.1 sz_b6
  have N6 := Fr.app N2 Nq6
  have K7 := K4.trans Kq6 all0
  show own_Ends p e below _ (T6.setTop (mkF m 21 #[.val (.int ch)] [(.ref b6), (.ref b3), (.ref b3)]))
  refine own_iconst X6 hx (0 : Int32) (hb hby own_d_jdk_42_method_139_code_21) (by decide) rfl ?_
  have f8 := (A3.keep Kq6)
  have f9 := (Fb3_value.keep Kq6 nin0)
  have f10 := (Fb3_coder.keep Kq6 nin0)
  refine own_special X6 hx hZ (y := (⟨"java/lang/String", "<init>", "([BB)V"⟩ : MethodName)) rfl hown (hw _ (List.mem_of_getElem? (i := 30) rfl)) (hw _ (List.mem_of_getElem? (i := 31) rfl)) (hw _ (List.mem_of_getElem? (i := 4) rfl)) (hw _ (List.mem_of_getElem? (i := 33) rfl)) (by decide) rfl (by decide) (W := 1) (by decide) (by decide) (by decide) [(.ref b6), (.int (0 : Int32))] [(.ref b3)] (by rw [hml]; rfl) (a := b3) (own_sbb l Z a0 hw b3 b6 T6.heap n0 g_b3 f8 f9 f10) own_pd2 rfl rfl rfl (hb hby own_d_jdk_42_method_139_code_22) rfl ?_
  intro v11 T11 L11 X11 hQ11
  obtain ⟨rfl, Nq11, Kq11, Es11, Vs11, Cs11⟩ := hQ11
  have N11 := Fr.app N6 Nq11
  have K12 := K7.trans Kq11 (allS (Or.inr sz_b3) all0)
  show own_Ends p e below _ (T11.setTop (mkF m 25 #[.val (.int ch)] [(.ref b3)]))
  have f13 := (V6.keep Kq11 (ninS (Ne.symm (Exa.neArv f8 V6 (hw _ (List.mem_of_getElem? (i := 5) rfl)))) nin0))
  exact own_retA X11 hx hlocks hret rfl rfl (hb hby own_d_jdk_42_method_139_code_25) (by decide) (by decide) ⟨b3, rfl, N11, by exact ⟨K12, g_b3, sz_b3, ⟨_, _, Es11, Vs11, Cs11, f13, CB6⟩⟩⟩
set_option maxRecDepth 65536 in
set_option maxHeartbeats 40000000 in
theorem own_coder (l : Launch) (Z : State) (a0 : Array Value) (hw : ∀ d ∈ tables_1, d.before a0 Z = true) (s1 : Addr) (b1 zc : Int32) (h0 : Heap) (n0 : Nat) (O0 : Old Z n0 h0) (SC : Sta Z Z.heap "java/lang/String" "COMPACT_STRINGS" "Z" (.int zc)) (hzc : ¬ zc = 0) (S1 : own_S1 Z h0 s1 b1) :
    own_Met l (⟨"java/lang/String", "coder", "()B"⟩ : MethodName) jdk_42_method_152_code 1 (some .byte) ({ frames := 0, cells := 0, slots := 0, locals := 0 } : Room) Z #[(.ref s1)] h0 (fun v h L => v = some (.int (0 : Int32)) ∧ Fr n0 L ∧ h = h0) := by
  refine own_met (plainFor_of_name own_pn_java_lang_String) ?_
  intro p e s m below meth c T0 hx hby hml hZ hown hnm hret hlocks X0 e0 hh0
  have ef : entryFrame m #[(.ref s1)] 1 = mkF m 0 #[.val (.ref s1)] [] := by first | (simp [entryFrame, mkF, argsToLocals, Value.category]; done) | rfl
  refine own_entry ef ?_
  have N0 := Fr.nil n0
  obtain ⟨t1, kb1, Es1, Vs1, Cs1, Ks1, CB1⟩ := S1
  refine own_getS X0 hx hZ hown (host := "") (Or.inl (hw _ (List.mem_of_getElem? (i := 21) rfl))) Via.refl e0 (SC.ext O0.2) (hb hby own_d_jdk_42_method_152_code_0) rfl ?_
  intro T1 X1 e1
  refine own_ifF X1 hx (hb hby own_d_jdk_42_method_152_code_3) rfl (feq hzc).1 ?_
  refine own_aloadN X1 hx (hb hby own_d_jdk_42_method_152_code_6) rfl rfl rfl ?_
  refine own_getF X1 hx hZ hown (host := "") (Or.inl (hw _ (List.mem_of_getElem? (i := 38) rfl))) Via.refl e1 Cs1 (hb hby own_d_jdk_42_method_152_code_7) rfl ?_
  intro T2 X2 e2
  refine own_goto X2 hx (hb hby own_d_jdk_42_method_152_code_10) (by decide) rfl ?_
  exact own_retN X2 hx hlocks hret (by simp) (hb hby own_d_jdk_42_method_152_code_14) (by decide) (by decide) (by decide) ⟨rfl, N0, e2⟩
set_option maxRecDepth 65536 in
set_option maxHeartbeats 40000000 in
theorem own_isL (l : Launch) (Z : State) (a0 : Array Value) (hw : ∀ d ∈ tables_1, d.before a0 Z = true) (s1 : Addr) (b1 zc : Int32) (h0 : Heap) (n0 : Nat) (O0 : Old Z n0 h0) (SC : Sta Z Z.heap "java/lang/String" "COMPACT_STRINGS" "Z" (.int zc)) (hzc : ¬ zc = 0) (S1 : own_S1 Z h0 s1 b1) :
    own_Met l (⟨"java/lang/String", "isLatin1", "()Z"⟩ : MethodName) jdk_42_method_154_code 1 (some .boolean) ({ frames := 0, cells := 0, slots := 0, locals := 0 } : Room) Z #[(.ref s1)] h0 (fun v h L => v = some (.int (1 : Int32)) ∧ Fr n0 L ∧ h = h0) := by
  refine own_met (plainFor_of_name own_pn_java_lang_String) ?_
  intro p e s m below meth c T0 hx hby hml hZ hown hnm hret hlocks X0 e0 hh0
  have ef : entryFrame m #[(.ref s1)] 1 = mkF m 0 #[.val (.ref s1)] [] := by first | (simp [entryFrame, mkF, argsToLocals, Value.category]; done) | rfl
  refine own_entry ef ?_
  have N0 := Fr.nil n0
  obtain ⟨t1, kb1, Es1, Vs1, Cs1, Ks1, CB1⟩ := S1
  refine own_getS X0 hx hZ hown (host := "") (Or.inl (hw _ (List.mem_of_getElem? (i := 21) rfl))) Via.refl e0 (SC.ext O0.2) (hb hby own_d_jdk_42_method_154_code_0) rfl ?_
  intro T1 X1 e1
  refine own_ifF X1 hx (hb hby own_d_jdk_42_method_154_code_3) rfl (feq hzc).1 ?_
  refine own_aloadN X1 hx (hb hby own_d_jdk_42_method_154_code_6) rfl rfl rfl ?_
  refine own_getF X1 hx hZ hown (host := "") (Or.inl (hw _ (List.mem_of_getElem? (i := 38) rfl))) Via.refl e1 Cs1 (hb hby own_d_jdk_42_method_154_code_7) rfl ?_
  intro T2 X2 e2
  refine own_ifF X2 hx (hb hby own_d_jdk_42_method_154_code_10) rfl (by decide) ?_
  refine own_iconst X2 hx (1 : Int32) (hb hby own_d_jdk_42_method_154_code_13) (by decide) rfl ?_
  refine own_goto X2 hx (hb hby own_d_jdk_42_method_154_code_14) (by decide) rfl ?_
  exact own_retN X2 hx hlocks hret (by simp) (hb hby own_d_jdk_42_method_154_code_18) (by decide) (by decide) (by decide) ⟨rfl, N0, e2⟩
set_option maxRecDepth 65536 in
set_option maxHeartbeats 40000000 in
theorem own_len (l : Launch) (Z : State) (a0 : Array Value) (hw : ∀ d ∈ tables_1, d.before a0 Z = true) (s1 : Addr) (b1 zc : Int32) (h0 : Heap) (n0 : Nat) (O0 : Old Z n0 h0) (SC : Sta Z Z.heap "java/lang/String" "COMPACT_STRINGS" "Z" (.int zc)) (hzc : ¬ zc = 0) (S1 : own_S1 Z h0 s1 b1) :
    own_Met l (⟨"java/lang/String", "length", "()I"⟩ : MethodName) jdk_42_method_54_code 1 (some .int) ({ frames := 1, cells := 0, slots := 0, locals := 13 } : Room) Z #[(.ref s1)] h0 (fun v h L => v = some (.int (1 : Int32)) ∧ Fr n0 L ∧ h = h0) := by
  refine own_met (plainFor_of_name own_pn_java_lang_String) ?_
  intro p e s m below meth c T0 hx hby hml hZ hown hnm hret hlocks X0 e0 hh0
  have ef : entryFrame m #[(.ref s1)] 1 = mkF m 0 #[.val (.ref s1)] [] := by first | (simp [entryFrame, mkF, argsToLocals, Value.category]; done) | rfl
  refine own_entry ef ?_
  have N0 := Fr.nil n0
  obtain ⟨t1, kb1, Es1, Vs1, Cs1, Ks1, CB1⟩ := S1
  refine own_aloadN X0 hx (hb hby own_d_jdk_42_method_54_code_0) rfl rfl rfl ?_
  refine own_getF X0 hx hZ hown (host := "") (Or.inl (hw _ (List.mem_of_getElem? (i := 37) rfl))) Via.refl e0 Vs1 (hb hby own_d_jdk_42_method_54_code_1) rfl ?_
  intro T1 X1 e1
  refine own_arraylength X1 hx hZ e1 Ks1 (hb hby own_d_jdk_42_method_54_code_4) rfl ?_
  refine own_aloadN X1 hx (hb hby own_d_jdk_42_method_54_code_5) rfl rfl rfl ?_
  refine own_virtual X1 hx hZ (y := (⟨"java/lang/String", "coder", "()B"⟩ : MethodName)) (z := (⟨"java/lang/String", "coder", "()B"⟩ : MethodName)) hown (hw _ (List.mem_of_getElem? (i := 51) rfl)) (hw _ (List.mem_of_getElem? (i := 52) rfl)) (notFace_of_selects (args := #[]) (mvT hZ (hw _ (List.mem_of_getElem? (i := 54) rfl)))) (hw _ (List.mem_of_getElem? (i := 54) rfl)) (hw _ (List.mem_of_getElem? (i := 53) rfl)) (hw _ (List.mem_of_getElem? (i := 4) rfl)) (hw _ (List.mem_of_getElem? (i := 55) rfl)) (by decide) e1 (by decide) (W := 1) (by decide) (by decide) (by decide) [] [(.int (1 : Int32))] (by rw [hml]; rfl) Es1 (own_coder l Z a0 hw s1 b1 zc h0 n0 O0 SC hzc ⟨_, _, Es1, Vs1, Cs1, Ks1, CB1⟩) own_pd3 rfl rfl rfl (hb hby own_d_jdk_42_method_54_code_6) rfl ?_
  intro v2 T2 L2 X2 hQ2
  obtain ⟨rfl, Nq2, hh2⟩ := hQ2
  have N2 := Fr.app N0 Nq2
  show own_Ends p e below _ (T2.setTop (mkF m 9 #[.val (.ref s1)] [(.int (0 : Int32)), (.int (1 : Int32))]))
  refine own_ishr X2 hx (hb hby own_d_jdk_42_method_54_code_9) rfl ?_
  rw [show ((1 : Int32) >>> ((0 : Int32) &&& 31)) = (1 : Int32) from by decide]
  exact own_retI X2 hx hlocks hret (hb hby own_d_jdk_42_method_54_code_10) (by decide) (by decide) ⟨rfl, N2, hh2⟩
set_option maxRecDepth 65536 in
set_option maxHeartbeats 40000000 in
theorem own_cpos (l : Launch) (Z : State) (a0 : Array Value) (hw : ∀ d ∈ tables_1, d.before a0 Z = true) (t1 : Addr) (kb : ClassId) (b1 : Int32) (h0 : Heap) (n0 : Nat) (V0 : Arv Z h0 t1 kb .byte (1 : Int32) [.int b1] (.int (0 : Int32))) :
    own_Met l (⟨"java/lang/StringCoding", "countPositives", "([BII)I"⟩ : MethodName) jdk_123_method_3_code 5 (some .int) ({ frames := 0, cells := 0, slots := 0, locals := 0 } : Room) Z #[(.ref t1), (.int (0 : Int32)), (.int (1 : Int32))] h0 (fun v h L => v = some (.int (if b1 < (0 : Int32) then 0 else 1)) ∧ Fr n0 L ∧ h = h0) := by
  refine own_met (plainFor_of_name own_pn_java_lang_StringCoding) ?_
  intro p e s m below meth c T0 hx hby hml hZ hown hnm hret hlocks X0 e0 hh0
  have ef : entryFrame m #[(.ref t1), (.int (0 : Int32)), (.int (1 : Int32))] 5 = mkF m 0 #[.val (.ref t1), .val (.int (0 : Int32)), .val (.int (1 : Int32)), .unset, .unset] [] := by first | (simp [entryFrame, mkF, argsToLocals, Value.category]; done) | rfl
  refine own_entry ef ?_
  have N0 := Fr.nil n0
  refine own_iloadN X0 hx (hb hby own_d_jdk_123_method_3_code_0) rfl rfl ?_
  refine own_iloadN X0 hx (hb hby own_d_jdk_123_method_3_code_1) rfl rfl ?_
  refine own_iadd X0 hx (hb hby own_d_jdk_123_method_3_code_2) rfl ?_
  rw [show ((0 : Int32) + (1 : Int32)) = (1 : Int32) from by decide]
  refine own_istoreN X0 hx #[.val (.ref t1), .val (.int (0 : Int32)), .val (.int (1 : Int32)), .val (.int (1 : Int32)), .unset] (hb hby own_d_jdk_123_method_3_code_3) rfl rfl ?_
  refine own_iloadN X0 hx (hb hby own_d_jdk_123_method_3_code_4) rfl rfl ?_
  refine own_istore X0 hx #[.val (.ref t1), .val (.int (0 : Int32)), .val (.int (1 : Int32)), .val (.int (1 : Int32)), .val (.int (0 : Int32))] (hb hby own_d_jdk_123_method_3_code_5) rfl rfl ?_
  refine own_iload X0 hx (hb hby own_d_jdk_123_method_3_code_7) rfl rfl ?_
  refine own_iloadN X0 hx (hb hby own_d_jdk_123_method_3_code_9) rfl rfl ?_
  refine own_icmpF X0 hx (hb hby own_d_jdk_123_method_3_code_10) rfl (by decide) ?_
  refine own_aloadN X0 hx (hb hby own_d_jdk_123_method_3_code_13) rfl rfl rfl ?_
  refine own_iload X0 hx (hb hby own_d_jdk_123_method_3_code_14) rfl rfl ?_
  refine own_baloadBytes X0 hx hZ e0 V0 ⟨by decide, by decide⟩ rfl (hb hby own_d_jdk_123_method_3_code_16) rfl ?_
  refine own_if_ge X0 hx (hb hby own_d_jdk_123_method_3_code_17) (by decide) rfl rfl (fun hc17_1 => ?_) (fun hc17_1 => ?_)
  · refine own_iinc X0 hx #[.val (.ref t1), .val (.int (0 : Int32)), .val (.int (1 : Int32)), .val (.int (1 : Int32)), .val (.int (1 : Int32))] (hb hby own_d_jdk_123_method_3_code_25) rfl rfl rfl ?_
    refine own_goto X0 hx (hb hby own_d_jdk_123_method_3_code_28) (by decide) rfl ?_
    refine own_iload X0 hx (hb hby own_d_jdk_123_method_3_code_7) rfl rfl ?_
    refine own_iloadN X0 hx (hb hby own_d_jdk_123_method_3_code_9) rfl rfl ?_
    refine own_icmpT X0 hx (hb hby own_d_jdk_123_method_3_code_10) (by decide) rfl (by decide) ?_
    refine own_iloadN X0 hx (hb hby own_d_jdk_123_method_3_code_31) rfl rfl ?_
    exact own_retI X0 hx hlocks hret (hb hby own_d_jdk_123_method_3_code_32) (by decide) (by decide) ⟨congrArg (fun q => some (Value.int q)) (by simp only [if_neg hc17_1]), N0, e0⟩
  · refine own_iload X0 hx (hb hby own_d_jdk_123_method_3_code_20) rfl rfl ?_
    refine own_iloadN X0 hx (hb hby own_d_jdk_123_method_3_code_22) rfl rfl ?_
    refine own_isub X0 hx (hb hby own_d_jdk_123_method_3_code_23) rfl ?_
    rw [show ((0 : Int32) - (0 : Int32)) = (0 : Int32) from by decide]
    exact own_retI X0 hx hlocks hret (hb hby own_d_jdk_123_method_3_code_24) (by decide) (by decide) ⟨congrArg (fun q => some (Value.int q)) (by simp only [if_pos hc17_1]), N0, e0⟩
set_option maxRecDepth 65536 in
set_option maxHeartbeats 40000000 in
theorem own_hneg (l : Launch) (Z : State) (a0 : Array Value) (hw : ∀ d ∈ tables_1, d.before a0 Z = true) (t1 : Addr) (kb : ClassId) (b1 : Int32) (h0 : Heap) (n0 : Nat) (V0 : Arv Z h0 t1 kb .byte (1 : Int32) [.int b1] (.int (0 : Int32))) :
    own_Met l (⟨"java/lang/StringCoding", "hasNegatives", "([BII)Z"⟩ : MethodName) jdk_123_method_2_code 3 (some .boolean) ({ frames := 1, cells := 0, slots := 0, locals := 16 } : Room) Z #[(.ref t1), (.int (0 : Int32)), (.int (1 : Int32))] h0 (fun v h L => v = some (.int (if b1 < (0 : Int32) then 1 else 0)) ∧ Fr n0 L ∧ h = h0) := by
  refine own_met (plainFor_of_name own_pn_java_lang_StringCoding) ?_
  intro p e s m below meth c T0 hx hby hml hZ hown hnm hret hlocks X0 e0 hh0
  have ef : entryFrame m #[(.ref t1), (.int (0 : Int32)), (.int (1 : Int32))] 3 = mkF m 0 #[.val (.ref t1), .val (.int (0 : Int32)), .val (.int (1 : Int32))] [] := by first | (simp [entryFrame, mkF, argsToLocals, Value.category]; done) | rfl
  refine own_entry ef ?_
  have N0 := Fr.nil n0
  refine own_aloadN X0 hx (hb hby own_d_jdk_123_method_2_code_0) rfl rfl rfl ?_
  refine own_iloadN X0 hx (hb hby own_d_jdk_123_method_2_code_1) rfl rfl ?_
  refine own_iloadN X0 hx (hb hby own_d_jdk_123_method_2_code_2) rfl rfl ?_
  refine own_static X0 hx hZ (y := (⟨"java/lang/StringCoding", "countPositives", "([BII)I"⟩ : MethodName)) hown (hw _ (List.mem_of_getElem? (i := 68) rfl)) (hw _ (List.mem_of_getElem? (i := 69) rfl)) (hw _ (List.mem_of_getElem? (i := 66) rfl)) (hw _ (List.mem_of_getElem? (i := 70) rfl)) (by decide) e0 (by decide) (W := 0) (by decide) (by decide) (by decide) [(.ref t1), (.int (0 : Int32)), (.int (1 : Int32))] [] (by rw [hml]; rfl) (own_cpos l Z a0 hw t1 _ b1 h0 n0 V0) own_pd4 rfl rfl rfl (hb hby own_d_jdk_123_method_2_code_3) rfl ?_
  intro v1 T1 L1 X1 hQ1
  obtain ⟨rfl, Nq1, hh1⟩ := hQ1
  have N1 := Fr.app N0 Nq1
  show own_Ends p e below _ (T1.setTop (mkF m 6 #[.val (.ref t1), .val (.int (0 : Int32)), .val (.int (1 : Int32))] [(.int (if b1 < (0 : Int32) then (0 : Int32) else 1))]))
  refine own_iloadN X1 hx (hb hby own_d_jdk_123_method_2_code_6) rfl rfl ?_
  refine own_icmp_eq X1 hx (hb hby own_d_jdk_123_method_2_code_7) (by decide) rfl rfl (fun hc7_2 => ?_) (fun hc7_2 => ?_)
  · refine own_iconst X1 hx (0 : Int32) (hb hby own_d_jdk_123_method_2_code_14) (by decide) rfl ?_
    exact own_retN X1 hx hlocks hret (by simp) (hb hby own_d_jdk_123_method_2_code_15) (by decide) (by decide) (by decide) ⟨congrArg (fun q => some (Value.int q)) (by by_cases q : b1 < (0 : Int32) <;> simp_all), N1, hh1⟩
  · refine own_iconst X1 hx (1 : Int32) (hb hby own_d_jdk_123_method_2_code_10) (by decide) rfl ?_
    refine own_goto X1 hx (hb hby own_d_jdk_123_method_2_code_11) (by decide) rfl ?_
    exact own_retN X1 hx hlocks hret (by simp) (hb hby own_d_jdk_123_method_2_code_15) (by decide) (by decide) (by decide) ⟨congrArg (fun q => some (Value.int q)) (by by_cases q : b1 < (0 : Int32) <;> simp_all), N1, hh1⟩
set_option maxRecDepth 65536 in
set_option maxHeartbeats 40000000 in
theorem own_nbl (l : Launch) (Z : State) (a0 : Array Value) (hw : ∀ d ∈ tables_1, d.before a0 Z = true)  (h0 : Heap) (n0 : Nat)  :
    own_Met l (⟨"java/lang/StringUTF16", "newBytesLength", "(I)I"⟩ : MethodName) jdk_52_method_3_code 1 (some .int) ({ frames := 0, cells := 0, slots := 0, locals := 0 } : Room) Z #[(.int (1 : Int32))] h0 (fun v h L => v = some (.int (2 : Int32)) ∧ Fr n0 L ∧ h = h0) := by
  refine own_met (plainFor_of_name own_pn_java_lang_StringUTF16) ?_
  intro p e s m below meth c T0 hx hby hml hZ hown hnm hret hlocks X0 e0 hh0
  have ef : entryFrame m #[(.int (1 : Int32))] 1 = mkF m 0 #[.val (.int (1 : Int32))] [] := by first | (simp [entryFrame, mkF, argsToLocals, Value.category]; done) | rfl
  refine own_entry ef ?_
  have N0 := Fr.nil n0
  refine own_iloadN X0 hx (hb hby own_d_jdk_52_method_3_code_0) rfl rfl ?_
  refine own_ifT X0 hx (hb hby own_d_jdk_52_method_3_code_1) (by decide) rfl (by decide) ?_
  refine own_iloadN X0 hx (hb hby own_d_jdk_52_method_3_code_12) rfl rfl ?_
  refine own_ldcInt X0 hx hZ hown (hw _ (List.mem_of_getElem? (i := 363) rfl)) (hb hby own_d_jdk_52_method_3_code_13) rfl ?_
  refine own_icmpT X0 hx (hb hby own_d_jdk_52_method_3_code_15) (by decide) rfl (by decide) ?_
  refine own_iloadN X0 hx (hb hby own_d_jdk_52_method_3_code_55) rfl rfl ?_
  refine own_iconst X0 hx (1 : Int32) (hb hby own_d_jdk_52_method_3_code_56) (by decide) rfl ?_
  refine own_ishl X0 hx (hb hby own_d_jdk_52_method_3_code_57) rfl ?_
  rw [show ((1 : Int32) <<< ((1 : Int32) &&& 31)) = (2 : Int32) from by decide]
  exact own_retI X0 hx hlocks hret (hb hby own_d_jdk_52_method_3_code_58) (by decide) (by decide) ⟨rfl, N0, e0⟩
set_option maxRecDepth 65536 in
set_option maxHeartbeats 40000000 in
theorem own_nbf (l : Launch) (Z : State) (a0 : Array Value) (hw : ∀ d ∈ tables_1, d.before a0 Z = true)  (h0 : Heap) (n0 : Nat) (O0 : Old Z n0 h0) :
    own_Met l (⟨"java/lang/StringUTF16", "newBytesFor", "(I)[B"⟩ : MethodName) jdk_52_method_2_code 1 (some (.array .byte)) ({ frames := 1, cells := 1, slots := 2, locals := 12 } : Room) Z #[(.int (1 : Int32))] h0 (fun v h L => ∃ (b : Addr) (k : ClassId), v = some (.ref b) ∧ Fr n0 L ∧ Keep h0 h [] ∧ n0 ≤ b ∧ h0.size ≤ b ∧ Arv Z h b k .byte (2 : Int32) [.int (0 : Int32), .int (0 : Int32)] (.int (0 : Int32))) := by
  refine own_met (plainFor_of_name own_pn_java_lang_StringUTF16) ?_
  intro p e s m below meth c T0 hx hby hml hZ hown hnm hret hlocks X0 e0 hh0
  have ef : entryFrame m #[(.int (1 : Int32))] 1 = mkF m 0 #[.val (.int (1 : Int32))] [] := by first | (simp [entryFrame, mkF, argsToLocals, Value.category]; done) | rfl
  refine own_entry ef ?_
  have N0 := Fr.nil n0
  have K0 := Keep.refl h0 []
  refine own_iloadN X0 hx (hb hby own_d_jdk_52_method_2_code_0) rfl rfl ?_
  refine own_static X0 hx hZ (y := (⟨"java/lang/StringUTF16", "newBytesLength", "(I)I"⟩ : MethodName)) hown (hw _ (List.mem_of_getElem? (i := 360) rfl)) (hw _ (List.mem_of_getElem? (i := 361) rfl)) (hw _ (List.mem_of_getElem? (i := 358) rfl)) (hw _ (List.mem_of_getElem? (i := 362) rfl)) (by decide) e0 (by decide) (W := 0) (by decide) (by decide) (by decide) [(.int (1 : Int32))] [] (by rw [hml]; rfl) (own_nbl l Z a0 hw h0 n0) own_pd5 rfl rfl rfl (hb hby own_d_jdk_52_method_2_code_1) rfl ?_
  intro v1 T1 L1 X1 hQ1
  obtain ⟨rfl, Nq1, hh1⟩ := hQ1
  have N1 := Fr.app N0 Nq1
  show own_Ends p e below _ (T1.setTop (mkF m 4 #[.val (.int (1 : Int32))] [(.int (2 : Int32))]))
  refine own_newPB X1 hx hZ (hw _ (List.mem_of_getElem? (i := 6) rfl)) hh1 (hb hby own_d_jdk_52_method_2_code_4) (by decide) 2 (by decide) (by decide) (by decide) (by decide) rfl ?_
  intro T2 h2 b2 k2 X2 e2 g2 E2 V2q CB2
  have g_b2 : n0 ≤ b2 := Nat.le_trans (own_oz O0) (Nat.le_of_eq g2.symm)
  have sz_b2 : h0.size ≤ b2 := Nat.le_trans K0.1 (Nat.le_of_eq g2.symm)
  have K3 := K0.ext E2
  have V2 : Arv Z h2 b2 k2 .byte (2 : Int32) [(.int (0 : Int32)), (.int (0 : Int32))] (.int (0 : Int32)) := Arv.pad V2q (pad_rep [] (.int (0 : Int32)) 2)
  exact own_retA X2 hx hlocks hret rfl rfl (hb hby own_d_jdk_52_method_2_code_6) (by decide) (by decide) ⟨b2, _, rfl, N1, by rw [e2]; exact ⟨K3, g_b2, sz_b2, V2⟩⟩
set_option maxRecDepth 65536 in
set_option maxHeartbeats 40000000 in
theorem own_encU (l : Launch) (Z : State) (a0 : Array Value) (hw : ∀ d ∈ tables_1, d.before a0 Z = true) (t1 : Addr) (kb : ClassId) (b1 : Int32) (h0 : Heap) (n0 : Nat) (O0 : Old Z n0 h0) (V0 : Arv Z h0 t1 kb .byte (1 : Int32) [.int b1] (.int (0 : Int32))) (CB0 : Z.vm.findClass "[B" = some kb) :
    own_Met l (⟨"java/lang/String", "encodeUTF8", "(B[BZ)[B"⟩ : MethodName) jdk_42_method_46_code 9 (some (.array .byte)) ({ frames := 2, cells := 1, slots := 2, locals := 30 } : Room) Z #[(.int (0 : Int32)), (.ref t1), (.int (1 : Int32))] h0 (fun v h L => ∃ (r : Addr) (kr : ClassId), v = some (.ref r) ∧ Fr n0 L ∧ Keep h0 h [] ∧ n0 ≤ r ∧ h0.size ≤ r ∧ (Arv Z h r kr .byte (1 : Int32) [.int b1] (.int (0 : Int32)) ∨ ∃ y0 y1 : Int32, Arv Z h r kr .byte (2 : Int32) [.int y0, .int y1] (.int (0 : Int32)))) := by
  refine own_met (plainFor_of_name own_pn_java_lang_String) ?_
  intro p e s m below meth c T0 hx hby hml hZ hown hnm hret hlocks X0 e0 hh0
  have ef : entryFrame m #[(.int (0 : Int32)), (.ref t1), (.int (1 : Int32))] 9 = mkF m 0 #[.val (.int (0 : Int32)), .val (.ref t1), .val (.int (1 : Int32)), .unset, .unset, .unset, .unset, .unset, .unset] [] := by first | (simp [entryFrame, mkF, argsToLocals, Value.category]; done) | rfl
  refine own_entry ef ?_
  have N0 := Fr.nil n0
  have K0 := Keep.refl h0 []
  by_cases hbn : b1 < (0 : Int32)
  · refine own_iloadN X0 hx (hb hby own_d_jdk_42_method_46_code_0) rfl rfl ?_
    refine own_iconst X0 hx (1 : Int32) (hb hby own_d_jdk_42_method_46_code_1) (by decide) rfl ?_
    refine own_icmpT X0 hx (hb hby own_d_jdk_42_method_46_code_2) (by decide) rfl (by decide) ?_
    refine own_aloadN X0 hx (hb hby own_d_jdk_42_method_46_code_11) rfl rfl rfl ?_
    refine own_iconst X0 hx (0 : Int32) (hb hby own_d_jdk_42_method_46_code_12) (by decide) rfl ?_
    refine own_aloadN X0 hx (hb hby own_d_jdk_42_method_46_code_13) rfl rfl rfl ?_
    refine own_arraylength X0 hx hZ e0 V0 (hb hby own_d_jdk_42_method_46_code_14) rfl ?_
    refine own_static X0 hx hZ (y := (⟨"java/lang/StringCoding", "hasNegatives", "([BII)Z"⟩ : MethodName)) hown (hw _ (List.mem_of_getElem? (i := 64) rfl)) (hw _ (List.mem_of_getElem? (i := 65) rfl)) (hw _ (List.mem_of_getElem? (i := 66) rfl)) (hw _ (List.mem_of_getElem? (i := 67) rfl)) (by decide) e0 (by decide) (W := 0) (by decide) (by decide) (by decide) [(.ref t1), (.int (0 : Int32)), (.int (1 : Int32))] [] (by rw [hml]; rfl) (own_hneg l Z a0 hw t1 _ b1 h0 n0 V0) own_pd6 rfl rfl rfl (hb hby own_d_jdk_42_method_46_code_15) rfl ?_
    intro v1 T1 L1 X1 hQ1
    obtain ⟨rfl, Nq1, hh1⟩ := hQ1
    have N1 := Fr.app N0 Nq1
    rw [if_pos hbn]
    show own_Ends p e below _ (T1.setTop (mkF m 18 #[.val (.int (0 : Int32)), .val (.ref t1), .val (.int (1 : Int32)), .unset, .unset, .unset, .unset, .unset, .unset] [(.int (1 : Int32))]))
    refine own_ifT X1 hx (hb hby own_d_jdk_42_method_46_code_18) (by decide) rfl (by decide) ?_
    refine own_iconst X1 hx (0 : Int32) (hb hby own_d_jdk_42_method_46_code_29) (by decide) rfl ?_
    refine own_istoreN X1 hx #[.val (.int (0 : Int32)), .val (.ref t1), .val (.int (1 : Int32)), .val (.int (0 : Int32)), .unset, .unset, .unset, .unset, .unset] (hb hby own_d_jdk_42_method_46_code_30) rfl rfl ?_
    refine own_aloadN X1 hx (hb hby own_d_jdk_42_method_46_code_31) rfl rfl rfl ?_
    refine own_arraylength X1 hx hZ hh1 V0 (hb hby own_d_jdk_42_method_46_code_32) rfl ?_
    refine own_static X1 hx hZ (y := (⟨"java/lang/StringUTF16", "newBytesFor", "(I)[B"⟩ : MethodName)) hown (hw _ (List.mem_of_getElem? (i := 356) rfl)) (hw _ (List.mem_of_getElem? (i := 357) rfl)) (hw _ (List.mem_of_getElem? (i := 358) rfl)) (hw _ (List.mem_of_getElem? (i := 359) rfl)) (by decide) hh1 (by decide) (W := 0) (by decide) (by decide) (by decide) [(.int (1 : Int32))] [] (by rw [hml]; rfl) (own_nbf l Z a0 hw h0 n0 O0) own_pd7 rfl rfl rfl (hb hby own_d_jdk_42_method_46_code_33) rfl ?_
    intro v2 T2 L2 X2 hQ2
    obtain ⟨b2, k2, rfl, Nq2, Kq2, g_b2, sz_b2, V2⟩ := hQ2
    have sz_b2 := Nat.le_trans K0.1 sz_b2
    have N2 := Fr.app N1 Nq2
    have K3 := K0.trans Kq2 all0
    show own_Ends p e below _ (T2.setTop (mkF m 36 #[.val (.int (0 : Int32)), .val (.ref t1), .val (.int (1 : Int32)), .val (.int (0 : Int32)), .unset, .unset, .unset, .unset, .unset] [(.ref b2)]))
    refine own_astore X2 hx #[.val (.int (0 : Int32)), .val (.ref t1), .val (.int (1 : Int32)), .val (.int (0 : Int32)), .val (.ref b2), .unset, .unset, .unset, .unset] (hb hby own_d_jdk_42_method_46_code_36) rfl rfl rfl ?_
    refine own_aloadN X2 hx (hb hby own_d_jdk_42_method_46_code_38) rfl rfl rfl ?_
    refine own_astore X2 hx #[.val (.int (0 : Int32)), .val (.ref t1), .val (.int (1 : Int32)), .val (.int (0 : Int32)), .val (.ref b2), .val (.ref t1), .unset, .unset, .unset] (hb hby own_d_jdk_42_method_46_code_39) rfl rfl rfl ?_
    refine own_aload X2 hx (hb hby own_d_jdk_42_method_46_code_41) rfl rfl rfl ?_
    have f4 := (V0.keep Kq2 nin0)
    refine own_arraylength X2 hx hZ rfl f4 (hb hby own_d_jdk_42_method_46_code_43) rfl ?_
    refine own_istore X2 hx #[.val (.int (0 : Int32)), .val (.ref t1), .val (.int (1 : Int32)), .val (.int (0 : Int32)), .val (.ref b2), .val (.ref t1), .val (.int (1 : Int32)), .unset, .unset] (hb hby own_d_jdk_42_method_46_code_44) rfl rfl ?_
    refine own_iconst X2 hx (0 : Int32) (hb hby own_d_jdk_42_method_46_code_46) (by decide) rfl ?_
    refine own_istore X2 hx #[.val (.int (0 : Int32)), .val (.ref t1), .val (.int (1 : Int32)), .val (.int (0 : Int32)), .val (.ref b2), .val (.ref t1), .val (.int (1 : Int32)), .val (.int (0 : Int32)), .unset] (hb hby own_d_jdk_42_method_46_code_47) rfl rfl ?_
    refine own_iload X2 hx (hb hby own_d_jdk_42_method_46_code_49) rfl rfl ?_
    refine own_iload X2 hx (hb hby own_d_jdk_42_method_46_code_51) rfl rfl ?_
    refine own_icmpF X2 hx (hb hby own_d_jdk_42_method_46_code_53) rfl (by decide) ?_
    refine own_aload X2 hx (hb hby own_d_jdk_42_method_46_code_56) rfl rfl rfl ?_
    refine own_iload X2 hx (hb hby own_d_jdk_42_method_46_code_58) rfl rfl ?_
    refine own_baloadBytes X2 hx hZ rfl f4 ⟨by decide, by decide⟩ rfl (hb hby own_d_jdk_42_method_46_code_60) rfl ?_
    refine own_istore X2 hx #[.val (.int (0 : Int32)), .val (.ref t1), .val (.int (1 : Int32)), .val (.int (0 : Int32)), .val (.ref b2), .val (.ref t1), .val (.int (1 : Int32)), .val (.int (0 : Int32)), .val (.int b1)] (hb hby own_d_jdk_42_method_46_code_61) rfl rfl ?_
    refine own_iload X2 hx (hb hby own_d_jdk_42_method_46_code_63) rfl rfl ?_
    refine own_ifF X2 hx (hb hby own_d_jdk_42_method_46_code_65) rfl (tlt hbn).2.1 ?_
    refine own_aload X2 hx (hb hby own_d_jdk_42_method_46_code_68) rfl rfl rfl ?_
    refine own_iloadN X2 hx (hb hby own_d_jdk_42_method_46_code_70) rfl rfl ?_
    refine own_iinc X2 hx #[.val (.int (0 : Int32)), .val (.ref t1), .val (.int (1 : Int32)), .val (.int (1 : Int32)), .val (.ref b2), .val (.ref t1), .val (.int (1 : Int32)), .val (.int (0 : Int32)), .val (.int b1)] (hb hby own_d_jdk_42_method_46_code_71) rfl rfl rfl ?_
    refine own_sipush X2 hx (192 : Int32) (hb hby own_d_jdk_42_method_46_code_74) (by decide) rfl ?_
    refine own_iload X2 hx (hb hby own_d_jdk_42_method_46_code_77) rfl rfl ?_
    refine own_sipush X2 hx (255 : Int32) (hb hby own_d_jdk_42_method_46_code_79) (by decide) rfl ?_
    refine own_iand X2 hx (hb hby own_d_jdk_42_method_46_code_82) rfl ?_
    refine own_bipush X2 hx (6 : Int32) (hb hby own_d_jdk_42_method_46_code_83) (by decide) rfl ?_
    refine own_ishr X2 hx (hb hby own_d_jdk_42_method_46_code_85) rfl ?_
    refine own_ior X2 hx (hb hby own_d_jdk_42_method_46_code_86) rfl ?_
    refine own_i2b X2 hx (hb hby own_d_jdk_42_method_46_code_87) rfl ?_
    refine own_stB X2 hx hZ rfl V2 ⟨by decide, by decide⟩ 0 rfl (Nat.le_of_ble_eq_true rfl) (own_lo8 ((192 : Int32) ||| ((b1 &&& (255 : Int32)) >>> ((6 : Int32) &&& 31)))) N2 g_b2 (hb hby own_d_jdk_42_method_46_code_88) rfl ?_
    intro T5 h5 X5 e5 W5 N5 V5
    have K6 := K3.wr W5 (Or.inr sz_b2)
    refine own_aload X5 hx (hb hby own_d_jdk_42_method_46_code_89) rfl rfl rfl ?_
    refine own_iloadN X5 hx (hb hby own_d_jdk_42_method_46_code_91) rfl rfl ?_
    refine own_iinc X5 hx #[.val (.int (0 : Int32)), .val (.ref t1), .val (.int (1 : Int32)), .val (.int (2 : Int32)), .val (.ref b2), .val (.ref t1), .val (.int (1 : Int32)), .val (.int (0 : Int32)), .val (.int b1)] (hb hby own_d_jdk_42_method_46_code_92) rfl rfl rfl ?_
    refine own_sipush X5 hx (128 : Int32) (hb hby own_d_jdk_42_method_46_code_95) (by decide) rfl ?_
    refine own_iload X5 hx (hb hby own_d_jdk_42_method_46_code_98) rfl rfl ?_
    refine own_bipush X5 hx (63 : Int32) (hb hby own_d_jdk_42_method_46_code_100) (by decide) rfl ?_
    refine own_iand X5 hx (hb hby own_d_jdk_42_method_46_code_102) rfl ?_
    refine own_ior X5 hx (hb hby own_d_jdk_42_method_46_code_103) rfl ?_
    refine own_i2b X5 hx (hb hby own_d_jdk_42_method_46_code_104) rfl ?_
    refine own_stB X5 hx hZ e5 V5 ⟨by decide, by decide⟩ 1 rfl (Nat.le_of_ble_eq_true rfl) (own_lo8 ((128 : Int32) ||| (b1 &&& (63 : Int32)))) N5 g_b2 (hb hby own_d_jdk_42_method_46_code_105) rfl ?_
    intro T7 h7 X7 e7 W7 N7 V7
    have K8 := K6.wr W7 (Or.inr sz_b2)
    refine own_goto X7 hx (hb hby own_d_jdk_42_method_46_code_106) (by decide) rfl ?_
    refine own_iinc X7 hx #[.val (.int (0 : Int32)), .val (.ref t1), .val (.int (1 : Int32)), .val (.int (2 : Int32)), .val (.ref b2), .val (.ref t1), .val (.int (1 : Int32)), .val (.int (1 : Int32)), .val (.int b1)] (hb hby own_d_jdk_42_method_46_code_118) rfl rfl rfl ?_
    refine own_goto X7 hx (hb hby own_d_jdk_42_method_46_code_121) (by decide) rfl ?_
    refine own_iload X7 hx (hb hby own_d_jdk_42_method_46_code_49) rfl rfl ?_
    refine own_iload X7 hx (hb hby own_d_jdk_42_method_46_code_51) rfl rfl ?_
    refine own_icmpT X7 hx (hb hby own_d_jdk_42_method_46_code_53) (by decide) rfl (by decide) ?_
    refine own_iloadN X7 hx (hb hby own_d_jdk_42_method_46_code_124) rfl rfl ?_
    refine own_aload X7 hx (hb hby own_d_jdk_42_method_46_code_125) rfl rfl rfl ?_
    refine own_arraylength X7 hx hZ e7 V7 (hb hby own_d_jdk_42_method_46_code_127) rfl ?_
    refine own_icmpF X7 hx (hb hby own_d_jdk_42_method_46_code_128) rfl (by decide) ?_
    refine own_aload X7 hx (hb hby own_d_jdk_42_method_46_code_131) rfl rfl rfl ?_
    exact own_retA X7 hx hlocks hret rfl rfl (hb hby own_d_jdk_42_method_46_code_133) (by decide) (by decide) ⟨b2, _, rfl, N7, by rw [e7]; exact ⟨K8, g_b2, sz_b2, Or.inr ⟨_, _, V7⟩⟩⟩
  · refine own_iloadN X0 hx (hb hby own_d_jdk_42_method_46_code_0) rfl rfl ?_
    refine own_iconst X0 hx (1 : Int32) (hb hby own_d_jdk_42_method_46_code_1) (by decide) rfl ?_
    refine own_icmpT X0 hx (hb hby own_d_jdk_42_method_46_code_2) (by decide) rfl (by decide) ?_
    refine own_aloadN X0 hx (hb hby own_d_jdk_42_method_46_code_11) rfl rfl rfl ?_
    refine own_iconst X0 hx (0 : Int32) (hb hby own_d_jdk_42_method_46_code_12) (by decide) rfl ?_
    refine own_aloadN X0 hx (hb hby own_d_jdk_42_method_46_code_13) rfl rfl rfl ?_
    refine own_arraylength X0 hx hZ e0 V0 (hb hby own_d_jdk_42_method_46_code_14) rfl ?_
    refine own_static X0 hx hZ (y := (⟨"java/lang/StringCoding", "hasNegatives", "([BII)Z"⟩ : MethodName)) hown (hw _ (List.mem_of_getElem? (i := 64) rfl)) (hw _ (List.mem_of_getElem? (i := 65) rfl)) (hw _ (List.mem_of_getElem? (i := 66) rfl)) (hw _ (List.mem_of_getElem? (i := 67) rfl)) (by decide) e0 (by decide) (W := 0) (by decide) (by decide) (by decide) [(.ref t1), (.int (0 : Int32)), (.int (1 : Int32))] [] (by rw [hml]; rfl) (own_hneg l Z a0 hw t1 _ b1 h0 n0 V0) own_pd6 rfl rfl rfl (hb hby own_d_jdk_42_method_46_code_15) rfl ?_
    intro v9 T9 L9 X9 hQ9
    obtain ⟨rfl, Nq9, hh9⟩ := hQ9
    have N9 := Fr.app N0 Nq9
    rw [if_neg hbn]
    show own_Ends p e below _ (T9.setTop (mkF m 18 #[.val (.int (0 : Int32)), .val (.ref t1), .val (.int (1 : Int32)), .unset, .unset, .unset, .unset, .unset, .unset] [(.int (0 : Int32))]))
    refine own_ifF X9 hx (hb hby own_d_jdk_42_method_46_code_18) rfl (by decide) ?_
    refine own_aloadN X9 hx (hb hby own_d_jdk_42_method_46_code_21) rfl rfl rfl ?_
    refine own_cloneB X9 hx hZ hown (hw _ (List.mem_of_getElem? (i := 71) rfl)) (hw _ (List.mem_of_getElem? (i := 72) rfl)) (hw _ (List.mem_of_getElem? (i := 76) rfl)) (hw _ (List.mem_of_getElem? (i := 74) rfl)) (hw _ (List.mem_of_getElem? (i := 75) rfl)) (hw _ (List.mem_of_getElem? (i := 77) rfl)) hh9 V0 CB0 (by rw [hml]; rfl) (hb hby own_d_jdk_42_method_46_code_22) (by decide) 0 rfl (by decide) 1 (by decide) (by decide) (by decide) rfl ?_
    intro T10 h10 b10 X10 e10 g10 E10 V10
    have g_b10 : n0 ≤ b10 := Nat.le_trans (own_oz O0) (Nat.le_of_eq g10.symm)
    have sz_b10 : h0.size ≤ b10 := Nat.le_trans K0.1 (Nat.le_of_eq g10.symm)
    have K11 := K0.ext E10
    refine own_castY X10 hx hZ hown (hw _ (List.mem_of_getElem? (i := 78) rfl)) e10 (Ins.self (own_exaB V10 CB0)) (hb hby own_d_jdk_42_method_46_code_25) rfl ?_
    intro T12 X12 e12
    exact own_retA X12 hx hlocks hret rfl rfl (hb hby own_d_jdk_42_method_46_code_28) (by decide) (by decide) ⟨b10, _, rfl, N9, by rw [e12]; exact ⟨K11, g_b10, sz_b10, Or.inl V10⟩⟩
set_option maxRecDepth 65536 in
set_option maxHeartbeats 40000000 in
theorem own_enc (l : Launch) (Z : State) (a0 : Array Value) (hw : ∀ d ∈ tables_1, d.before a0 Z = true) (u8 : Addr) (t1 : Addr) (kb : ClassId) (b1 : Int32) (h0 : Heap) (n0 : Nat) (O0 : Old Z n0 h0) (SI : Sta Z Z.heap "sun/nio/cs/UTF_8" "INSTANCE" "Lsun/nio/cs/UTF_8;" (.ref u8)) (V0 : Arv Z h0 t1 kb .byte (1 : Int32) [.int b1] (.int (0 : Int32))) (CB0 : Z.vm.findClass "[B" = some kb) :
    own_Met l (⟨"java/lang/String", "encode", "(Ljava/nio/charset/Charset;B[B)[B"⟩ : MethodName) jdk_42_method_18_code 3 (some (.array .byte)) ({ frames := 3, cells := 1, slots := 2, locals := 50 } : Room) Z #[(.ref u8), (.int (0 : Int32)), (.ref t1)] h0 (fun v h L => ∃ (r : Addr) (kr : ClassId), v = some (.ref r) ∧ Fr n0 L ∧ Keep h0 h [] ∧ n0 ≤ r ∧ h0.size ≤ r ∧ (Arv Z h r kr .byte (1 : Int32) [.int b1] (.int (0 : Int32)) ∨ ∃ y0 y1 : Int32, Arv Z h r kr .byte (2 : Int32) [.int y0, .int y1] (.int (0 : Int32)))) := by
  refine own_met (plainFor_of_name own_pn_java_lang_String) ?_
  intro p e s m below meth c T0 hx hby hml hZ hown hnm hret hlocks X0 e0 hh0
  have ef : entryFrame m #[(.ref u8), (.int (0 : Int32)), (.ref t1)] 3 = mkF m 0 #[.val (.ref u8), .val (.int (0 : Int32)), .val (.ref t1)] [] := by first | (simp [entryFrame, mkF, argsToLocals, Value.category]; done) | rfl
  refine own_entry ef ?_
  have N0 := Fr.nil n0
  have K0 := Keep.refl h0 []
  refine own_aloadN X0 hx (hb hby own_d_jdk_42_method_18_code_0) rfl rfl rfl ?_
  refine own_getS X0 hx hZ hown (host := "") (Or.inl (hw _ (List.mem_of_getElem? (i := 59) rfl))) Via.refl e0 (SI.ext O0.2) (hb hby own_d_jdk_42_method_18_code_1) rfl ?_
  intro T1 X1 e1
  refine own_acmp_ne X1 hx (hb hby own_d_jdk_42_method_18_code_4) (by decide) rfl rfl (fun hc4_2 => absurd rfl hc4_2) (fun hc4_2 => ?_)
  refine own_iloadN X1 hx (hb hby own_d_jdk_42_method_18_code_7) rfl rfl ?_
  refine own_aloadN X1 hx (hb hby own_d_jdk_42_method_18_code_8) rfl rfl rfl ?_
  refine own_iconst X1 hx (1 : Int32) (hb hby own_d_jdk_42_method_18_code_9) (by decide) rfl ?_
  refine own_static X1 hx hZ (y := (⟨"java/lang/String", "encodeUTF8", "(B[BZ)[B"⟩ : MethodName)) hown (hw _ (List.mem_of_getElem? (i := 61) rfl)) (hw _ (List.mem_of_getElem? (i := 62) rfl)) (hw _ (List.mem_of_getElem? (i := 4) rfl)) (hw _ (List.mem_of_getElem? (i := 63) rfl)) (by decide) e1 (by decide) (W := 0) (by decide) (by decide) (by decide) [(.int (0 : Int32)), (.ref t1), (.int (1 : Int32))] [] (by rw [hml]; rfl) (own_encU l Z a0 hw t1 _ b1 h0 n0 O0 V0 CB0) own_pd8 rfl rfl rfl (hb hby own_d_jdk_42_method_18_code_10) rfl ?_
  intro v3 T3 L3 X3 hQ3
  obtain ⟨r3, kr3, rfl, Nq3, Kq3, g_r3, sz_r3, D3⟩ := hQ3
  have sz_r3 := Nat.le_trans K0.1 sz_r3
  have N3 := Fr.app N0 Nq3
  have K4 := K0.trans Kq3 all0
  show own_Ends p e below _ (T3.setTop (mkF m 13 #[.val (.ref u8), .val (.int (0 : Int32)), .val (.ref t1)] [(.ref r3)]))
  exact own_retA X3 hx hlocks hret rfl rfl (hb hby own_d_jdk_42_method_18_code_13) (by decide) (by decide) ⟨r3, _, rfl, N3, by exact ⟨K4, g_r3, sz_r3, D3⟩⟩
set_option maxRecDepth 65536 in
set_option maxHeartbeats 40000000 in
theorem own_getB (l : Launch) (Z : State) (a0 : Array Value) (hw : ∀ d ∈ tables_1, d.before a0 Z = true) (u8 : Addr) (s1 : Addr) (b1 zc : Int32) (h0 : Heap) (n0 : Nat) (O0 : Old Z n0 h0) (SC : Sta Z Z.heap "java/lang/String" "COMPACT_STRINGS" "Z" (.int zc)) (hzc : ¬ zc = 0) (S1 : own_S1 Z h0 s1 b1) (SI : Sta Z Z.heap "sun/nio/cs/UTF_8" "INSTANCE" "Lsun/nio/cs/UTF_8;" (.ref u8)) :
    own_Met l (⟨"java/lang/String", "getBytes", "(Ljava/nio/charset/Charset;)[B"⟩ : MethodName) jdk_42_method_64_code 2 (some (.array .byte)) ({ frames := 4, cells := 1, slots := 2, locals := 64 } : Room) Z #[(.ref s1), (.ref u8)] h0 (fun v h L => ∃ (r : Addr) (kr : ClassId), v = some (.ref r) ∧ Fr n0 L ∧ Keep h0 h [] ∧ n0 ≤ r ∧ h0.size ≤ r ∧ (Arv Z h r kr .byte (1 : Int32) [.int b1] (.int (0 : Int32)) ∨ ∃ y0 y1 : Int32, Arv Z h r kr .byte (2 : Int32) [.int y0, .int y1] (.int (0 : Int32)))) := by
  refine own_met (plainFor_of_name own_pn_java_lang_String) ?_
  intro p e s m below meth c T0 hx hby hml hZ hown hnm hret hlocks X0 e0 hh0
  have ef : entryFrame m #[(.ref s1), (.ref u8)] 2 = mkF m 0 #[.val (.ref s1), .val (.ref u8)] [] := by first | (simp [entryFrame, mkF, argsToLocals, Value.category]; done) | rfl
  refine own_entry ef ?_
  have N0 := Fr.nil n0
  have K0 := Keep.refl h0 []
  obtain ⟨t1, kb1, Es1, Vs1, Cs1, Ks1, CB1⟩ := S1
  refine own_aloadN X0 hx (hb hby own_d_jdk_42_method_64_code_0) rfl rfl rfl ?_
  refine own_ifnonnullT X0 hx (hb hby own_d_jdk_42_method_64_code_1) (by decide) rfl ?_
  refine own_aloadN X0 hx (hb hby own_d_jdk_42_method_64_code_12) rfl rfl rfl ?_
  refine own_aloadN X0 hx (hb hby own_d_jdk_42_method_64_code_13) rfl rfl rfl ?_
  refine own_virtual X0 hx hZ (y := (⟨"java/lang/String", "coder", "()B"⟩ : MethodName)) (z := (⟨"java/lang/String", "coder", "()B"⟩ : MethodName)) hown (hw _ (List.mem_of_getElem? (i := 51) rfl)) (hw _ (List.mem_of_getElem? (i := 52) rfl)) (notFace_of_selects (args := #[]) (mvT hZ (hw _ (List.mem_of_getElem? (i := 54) rfl)))) (hw _ (List.mem_of_getElem? (i := 54) rfl)) (hw _ (List.mem_of_getElem? (i := 53) rfl)) (hw _ (List.mem_of_getElem? (i := 4) rfl)) (hw _ (List.mem_of_getElem? (i := 55) rfl)) (by decide) e0 (by decide) (W := 1) (by decide) (by decide) (by decide) [] [(.ref u8)] (by rw [hml]; rfl) Es1 (own_coder l Z a0 hw s1 b1 zc h0 n0 O0 SC hzc ⟨_, _, Es1, Vs1, Cs1, Ks1, CB1⟩) own_pd3 rfl rfl rfl (hb hby own_d_jdk_42_method_64_code_14) rfl ?_
  intro v1 T1 L1 X1 hQ1
  obtain ⟨rfl, Nq1, hh1⟩ := hQ1
  have N1 := Fr.app N0 Nq1
  show own_Ends p e below _ (T1.setTop (mkF m 17 #[.val (.ref s1), .val (.ref u8)] [(.int (0 : Int32)), (.ref u8)]))
  refine own_aloadN X1 hx (hb hby own_d_jdk_42_method_64_code_17) rfl rfl rfl ?_
  refine own_getF X1 hx hZ hown (host := "") (Or.inl (hw _ (List.mem_of_getElem? (i := 37) rfl))) Via.refl hh1 Vs1 (hb hby own_d_jdk_42_method_64_code_18) rfl ?_
  intro T2 X2 e2
  refine own_static X2 hx hZ (y := (⟨"java/lang/String", "encode", "(Ljava/nio/charset/Charset;B[B)[B"⟩ : MethodName)) hown (hw _ (List.mem_of_getElem? (i := 56) rfl)) (hw _ (List.mem_of_getElem? (i := 57) rfl)) (hw _ (List.mem_of_getElem? (i := 4) rfl)) (hw _ (List.mem_of_getElem? (i := 58) rfl)) (by decide) e2 (by decide) (W := 0) (by decide) (by decide) (by decide) [(.ref u8), (.int (0 : Int32)), (.ref t1)] [] (by rw [hml]; rfl) (own_enc l Z a0 hw u8 t1 _ b1 h0 n0 O0 SI Ks1 CB1) own_pd9 rfl rfl rfl (hb hby own_d_jdk_42_method_64_code_21) rfl ?_
  intro v3 T3 L3 X3 hQ3
  obtain ⟨r3, kr3, rfl, Nq3, Kq3, g_r3, sz_r3, D3⟩ := hQ3
  have sz_r3 := Nat.le_trans K0.1 sz_r3
  have N3 := Fr.app N1 Nq3
  have K4 := K0.trans Kq3 all0
  show own_Ends p e below _ (T3.setTop (mkF m 24 #[.val (.ref s1), .val (.ref u8)] [(.ref r3)]))
  exact own_retA X3 hx hlocks hret rfl rfl (hb hby own_d_jdk_42_method_64_code_24) (by decide) (by decide) ⟨r3, _, rfl, N3, by exact ⟨K4, g_r3, sz_r3, D3⟩⟩
theorem own_fldU {Z : State} {h : Heap} {a : Addr} {C n d : String} {v w : Value} (F : Fld Z h a C n d v) (G : Fld Z h a C n d w) : v = w := Classical.byContradiction fun q => Fld.ne F G q rfl
theorem own_arvZ {Z : State} {h : Heap} {t : Addr} {k1 k2 : ClassId} {t1 t2 : FieldType} {z1 z2 : Int32} {v1 v2 : List Value} {d1 d2 : Value} (A : Arv Z h t k1 t1 z1 v1 d1) (B : Arv Z h t k2 t2 z2 v2 d2) : z1.toNatClampNeg = z2.toNatClampNeg := by
  obtain ⟨c1, A1, -, S1, -⟩ := A
  obtain ⟨c2, Al2, -, S2, -⟩ := B
  cases A1.1.symm.trans Al2.1
  exact S1.symm.trans S2
def own_eqv (a b : Int32) : Int32 := if a = b then 1 else 0
set_option maxRecDepth 65536 in
set_option maxHeartbeats 40000000 in
theorem own_l1e1 (l : Launch) (Z : State) (a0 : Array Value) (hw : ∀ d ∈ tables_1, d.before a0 Z = true) (t1 t2 : Addr) (kt1 kt2 : ClassId) (b1 b2 : Int32) (h0 : Heap) (n0 : Nat) (Vt1 : Arv Z h0 t1 kt1 .byte (1 : Int32) [.int b1] (.int (0 : Int32))) (Vt2 : Arv Z h0 t2 kt2 .byte (1 : Int32) [.int b2] (.int (0 : Int32))) :
    own_Met l (⟨"java/lang/StringLatin1", "equals", "([B[B)Z"⟩ : MethodName) jdk_43_method_13_code 3 (some .boolean) ({ frames := 0, cells := 0, slots := 0, locals := 0 } : Room) Z #[(.ref t1), (.ref t2)] h0 (fun v h L => v = some (.int (own_eqv b1 b2)) ∧ Fr n0 L ∧ h = h0) := by
  refine own_met (plainFor_of_name own_pn_java_lang_StringLatin1) ?_
  intro p e s m below meth c T0 hx hby hml hZ hown hnm hret hlocks X0 e0 hh0
  have ef : entryFrame m #[(.ref t1), (.ref t2)] 3 = mkF m 0 #[.val (.ref t1), .val (.ref t2), .unset] [] := by first | (simp [entryFrame, mkF, argsToLocals, Value.category]; done) | rfl
  refine own_entry ef ?_
  have N0 := Fr.nil n0
  refine own_aloadN X0 hx (hb hby own_d_jdk_43_method_13_code_0) rfl rfl rfl ?_
  refine own_arraylength X0 hx hZ e0 Vt1 (hb hby own_d_jdk_43_method_13_code_1) rfl ?_
  refine own_aloadN X0 hx (hb hby own_d_jdk_43_method_13_code_2) rfl rfl rfl ?_
  refine own_arraylength X0 hx hZ e0 Vt2 (hb hby own_d_jdk_43_method_13_code_3) rfl ?_
  refine own_icmpF X0 hx (hb hby own_d_jdk_43_method_13_code_4) rfl (by decide) ?_
  refine own_iconst X0 hx (0 : Int32) (hb hby own_d_jdk_43_method_13_code_7) (by decide) rfl ?_
  refine own_istoreN X0 hx #[.val (.ref t1), .val (.ref t2), .val (.int (0 : Int32))] (hb hby own_d_jdk_43_method_13_code_8) rfl rfl ?_
  refine own_iloadN X0 hx (hb hby own_d_jdk_43_method_13_code_9) rfl rfl ?_
  refine own_aloadN X0 hx (hb hby own_d_jdk_43_method_13_code_10) rfl rfl rfl ?_
  refine own_arraylength X0 hx hZ e0 Vt1 (hb hby own_d_jdk_43_method_13_code_11) rfl ?_
  refine own_icmpF X0 hx (hb hby own_d_jdk_43_method_13_code_12) rfl (by decide) ?_
  refine own_aloadN X0 hx (hb hby own_d_jdk_43_method_13_code_15) rfl rfl rfl ?_
  refine own_iloadN X0 hx (hb hby own_d_jdk_43_method_13_code_16) rfl rfl ?_
  refine own_baloadBytes X0 hx hZ e0 Vt1 ⟨by decide, by decide⟩ rfl (hb hby own_d_jdk_43_method_13_code_17) rfl ?_
  refine own_aloadN X0 hx (hb hby own_d_jdk_43_method_13_code_18) rfl rfl rfl ?_
  refine own_iloadN X0 hx (hb hby own_d_jdk_43_method_13_code_19) rfl rfl ?_
  refine own_baloadBytes X0 hx hZ e0 Vt2 ⟨by decide, by decide⟩ rfl (hb hby own_d_jdk_43_method_13_code_20) rfl ?_
  refine own_icmp_eq X0 hx (hb hby own_d_jdk_43_method_13_code_21) (by decide) rfl rfl (fun hc21_1 => ?_) (fun hc21_1 => ?_)
  · refine own_iinc X0 hx #[.val (.ref t1), .val (.ref t2), .val (.int (1 : Int32))] (hb hby own_d_jdk_43_method_13_code_26) rfl rfl rfl ?_
    refine own_goto X0 hx (hb hby own_d_jdk_43_method_13_code_29) (by decide) rfl ?_
    refine own_iloadN X0 hx (hb hby own_d_jdk_43_method_13_code_9) rfl rfl ?_
    refine own_aloadN X0 hx (hb hby own_d_jdk_43_method_13_code_10) rfl rfl rfl ?_
    refine own_arraylength X0 hx hZ e0 Vt1 (hb hby own_d_jdk_43_method_13_code_11) rfl ?_
    refine own_icmpT X0 hx (hb hby own_d_jdk_43_method_13_code_12) (by decide) rfl (by decide) ?_
    refine own_iconst X0 hx (1 : Int32) (hb hby own_d_jdk_43_method_13_code_32) (by decide) rfl ?_
    exact own_retN X0 hx hlocks hret (by simp) (hb hby own_d_jdk_43_method_13_code_33) (by decide) (by decide) (by decide) ⟨congrArg (fun q => some (Value.int q)) (by simp only [own_eqv, if_pos hc21_1]), N0, e0⟩
  · refine own_iconst X0 hx (0 : Int32) (hb hby own_d_jdk_43_method_13_code_24) (by decide) rfl ?_
    exact own_retN X0 hx hlocks hret (by simp) (hb hby own_d_jdk_43_method_13_code_25) (by decide) (by decide) (by decide) ⟨congrArg (fun q => some (Value.int q)) (by simp only [own_eqv, if_neg hc21_1]), N0, e0⟩
set_option maxRecDepth 65536 in
set_option maxHeartbeats 40000000 in
theorem own_eqs1 (l : Launch) (Z : State) (a0 : Array Value) (hw : ∀ d ∈ tables_1, d.before a0 Z = true) (s1 s2 t2 : Addr) (k2 : ClassId) (b1 b2 zc : Int32) (h0 : Heap) (n0 : Nat) (O0 : Old Z n0 h0) (SC : Sta Z Z.heap "java/lang/String" "COMPACT_STRINGS" "Z" (.int zc)) (hzc : ¬ zc = 0) (S1 : own_S1 Z h0 s1 b1) (Xs2 : Exa Z h0 s2 "java/lang/String") (Wl2 : Fld Z h0 s2 "java/lang/String" "value" "[B" (.ref t2)) (Cl2 : Fld Z h0 s2 "java/lang/String" "coder" "B" (.int (0 : Int32))) (Al2 : Arv Z h0 t2 k2 .byte (1 : Int32) [.int b2] (.int (0 : Int32))) :
    own_Met l (⟨"java/lang/String", "equals", "(Ljava/lang/Object;)Z"⟩ : MethodName) jdk_42_method_66_code 3 (some .boolean) ({ frames := 1, cells := 0, slots := 0, locals := 14 } : Room) Z #[(.ref s1), (.ref s2)] h0 (fun v h L => v = some (.int (own_eqv b1 b2)) ∧ Fr n0 L ∧ h = h0) := by
  refine own_met (plainFor_of_name own_pn_java_lang_String) ?_
  intro p e s m below meth c T0 hx hby hml hZ hown hnm hret hlocks X0 e0 hh0
  have ef : entryFrame m #[(.ref s1), (.ref s2)] 3 = mkF m 0 #[.val (.ref s1), .val (.ref s2), .unset] [] := by first | (simp [entryFrame, mkF, argsToLocals, Value.category]; done) | rfl
  refine own_entry ef ?_
  have N0 := Fr.nil n0
  obtain ⟨t1, kb1, Es1, Vs1, Cs1, Ks1, CB1⟩ := S1
  refine own_aloadN X0 hx (hb hby own_d_jdk_42_method_66_code_0) rfl rfl rfl ?_
  refine own_aloadN X0 hx (hb hby own_d_jdk_42_method_66_code_1) rfl rfl rfl ?_
  refine own_acmp_ne X0 hx (hb hby own_d_jdk_42_method_66_code_2) (by decide) rfl rfl (fun hc2_1 => ?_) (fun hc2_1 => ?_)
  · refine own_aloadN X0 hx (hb hby own_d_jdk_42_method_66_code_7) rfl rfl rfl ?_
    refine own_instY X0 hx hZ hown (hw _ (List.mem_of_getElem? (i := 26) rfl)) e0 (Ins.self Xs2) (hb hby own_d_jdk_42_method_66_code_8) rfl ?_
    intro T2 X2 e2
    refine own_ifF X2 hx (hb hby own_d_jdk_42_method_66_code_11) rfl (by decide) ?_
    refine own_aloadN X2 hx (hb hby own_d_jdk_42_method_66_code_14) rfl rfl rfl ?_
    refine own_castY X2 hx hZ hown (hw _ (List.mem_of_getElem? (i := 26) rfl)) e2 (Ins.self Xs2) (hb hby own_d_jdk_42_method_66_code_15) rfl ?_
    intro T3 X3 e3
    refine own_astoreN X3 hx #[.val (.ref s1), .val (.ref s2), .val (.ref s2)] (hb hby own_d_jdk_42_method_66_code_18) rfl rfl rfl ?_
    refine own_getS X3 hx hZ hown (host := "") (Or.inl (hw _ (List.mem_of_getElem? (i := 21) rfl))) Via.refl e3 (SC.ext O0.2) (hb hby own_d_jdk_42_method_66_code_19) rfl ?_
    intro T4 X4 e4
    refine own_ifF X4 hx (hb hby own_d_jdk_42_method_66_code_22) rfl (feq hzc).1 ?_
    refine own_aloadN X4 hx (hb hby own_d_jdk_42_method_66_code_25) rfl rfl rfl ?_
    refine own_getF X4 hx hZ hown (host := "") (Or.inl (hw _ (List.mem_of_getElem? (i := 38) rfl))) Via.refl e4 Cs1 (hb hby own_d_jdk_42_method_66_code_26) rfl ?_
    intro T5 X5 e5
    refine own_aloadN X5 hx (hb hby own_d_jdk_42_method_66_code_29) rfl rfl rfl ?_
    refine own_getF X5 hx hZ hown (host := "") (Or.inl (hw _ (List.mem_of_getElem? (i := 38) rfl))) Via.refl e5 Cl2 (hb hby own_d_jdk_42_method_66_code_30) rfl ?_
    intro T6 X6 e6
    refine own_icmpF X6 hx (hb hby own_d_jdk_42_method_66_code_33) rfl (by decide) ?_
    refine own_aloadN X6 hx (hb hby own_d_jdk_42_method_66_code_36) rfl rfl rfl ?_
    refine own_getF X6 hx hZ hown (host := "") (Or.inl (hw _ (List.mem_of_getElem? (i := 37) rfl))) Via.refl e6 Vs1 (hb hby own_d_jdk_42_method_66_code_37) rfl ?_
    intro T7 X7 e7
    refine own_aloadN X7 hx (hb hby own_d_jdk_42_method_66_code_40) rfl rfl rfl ?_
    refine own_getF X7 hx hZ hown (host := "") (Or.inl (hw _ (List.mem_of_getElem? (i := 37) rfl))) Via.refl e7 Wl2 (hb hby own_d_jdk_42_method_66_code_41) rfl ?_
    intro T8 X8 e8
    refine own_static X8 hx hZ (y := (⟨"java/lang/StringLatin1", "equals", "([B[B)Z"⟩ : MethodName)) hown (hw _ (List.mem_of_getElem? (i := 89) rfl)) (hw _ (List.mem_of_getElem? (i := 90) rfl)) (hw _ (List.mem_of_getElem? (i := 24) rfl)) (hw _ (List.mem_of_getElem? (i := 91) rfl)) (by decide) e8 (by decide) (W := 0) (by decide) (by decide) (by decide) [(.ref t1), (.ref t2)] [] (by rw [hml]; rfl) (own_l1e1 l Z a0 hw t1 t2 _ _ b1 b2 h0 n0 Ks1 Al2) own_pd10 rfl rfl rfl (hb hby own_d_jdk_42_method_66_code_44) rfl ?_
    intro v9 T9 L9 X9 hQ9
    obtain ⟨rfl, Nq9, hh9⟩ := hQ9
    have N9 := Fr.app N0 Nq9
    show own_Ends p e below _ (T9.setTop (mkF m 47 #[.val (.ref s1), .val (.ref s2), .val (.ref s2)] [(.int (own_eqv b1 b2))]))
    refine own_if_eq X9 hx (hb hby own_d_jdk_42_method_66_code_47) (by decide) rfl rfl (fun hc47_10 => ?_) (fun hc47_10 => ?_)
    · refine own_iconst X9 hx (0 : Int32) (hb hby own_d_jdk_42_method_66_code_54) (by decide) rfl ?_
      exact own_retN X9 hx hlocks hret (by simp) (hb hby own_d_jdk_42_method_66_code_55) (by decide) (by decide) (by decide) ⟨congrArg (fun q => some (Value.int q)) (by by_cases q : b1 = b2 <;> simp_all [own_eqv]), N9, hh9⟩
    · refine own_iconst X9 hx (1 : Int32) (hb hby own_d_jdk_42_method_66_code_50) (by decide) rfl ?_
      refine own_goto X9 hx (hb hby own_d_jdk_42_method_66_code_51) (by decide) rfl ?_
      exact own_retN X9 hx hlocks hret (by simp) (hb hby own_d_jdk_42_method_66_code_55) (by decide) (by decide) (by decide) ⟨congrArg (fun q => some (Value.int q)) (by by_cases q : b1 = b2 <;> simp_all [own_eqv]), N9, hh9⟩
  · refine own_iconst X0 hx (1 : Int32) (hb hby own_d_jdk_42_method_66_code_5) (by decide) rfl ?_
    exact own_retN X0 hx hlocks hret (by simp) (hb hby own_d_jdk_42_method_66_code_6) (by decide) (by decide) (by decide) ⟨(by subst hc2_1; have e := own_fldU Vs1 Wl2; cases e; exact congrArg (fun q => some (Value.int q)) (if_pos (own_arvU Ks1 Al2 (by decide))).symm), N0, e0⟩
set_option maxRecDepth 65536 in
set_option maxHeartbeats 40000000 in
theorem own_l1e2 (l : Launch) (Z : State) (a0 : Array Value) (hw : ∀ d ∈ tables_1, d.before a0 Z = true) (t1 t2 : Addr) (kt1 kt2 : ClassId) (b1 : Int32) (h0 : Heap) (n0 : Nat) (Vt1 : Arv Z h0 t1 kt1 .byte (1 : Int32) [.int b1] (.int (0 : Int32))) (Vt2 : Arv Z h0 t2 kt2 .byte (2 : Int32) [.int (46 : Int32), .int (46 : Int32)] (.int (0 : Int32))) :
    own_Met l (⟨"java/lang/StringLatin1", "equals", "([B[B)Z"⟩ : MethodName) jdk_43_method_13_code 3 (some .boolean) ({ frames := 0, cells := 0, slots := 0, locals := 0 } : Room) Z #[(.ref t1), (.ref t2)] h0 (fun v h L => v = some (.int 0) ∧ Fr n0 L ∧ h = h0) := by
  refine own_met (plainFor_of_name own_pn_java_lang_StringLatin1) ?_
  intro p e s m below meth c T0 hx hby hml hZ hown hnm hret hlocks X0 e0 hh0
  have ef : entryFrame m #[(.ref t1), (.ref t2)] 3 = mkF m 0 #[.val (.ref t1), .val (.ref t2), .unset] [] := by first | (simp [entryFrame, mkF, argsToLocals, Value.category]; done) | rfl
  refine own_entry ef ?_
  have N0 := Fr.nil n0
  refine own_aloadN X0 hx (hb hby own_d_jdk_43_method_13_code_0) rfl rfl rfl ?_
  refine own_arraylength X0 hx hZ e0 Vt1 (hb hby own_d_jdk_43_method_13_code_1) rfl ?_
  refine own_aloadN X0 hx (hb hby own_d_jdk_43_method_13_code_2) rfl rfl rfl ?_
  refine own_arraylength X0 hx hZ e0 Vt2 (hb hby own_d_jdk_43_method_13_code_3) rfl ?_
  refine own_icmpT X0 hx (hb hby own_d_jdk_43_method_13_code_4) (by decide) rfl (by decide) ?_
  refine own_iconst X0 hx (0 : Int32) (hb hby own_d_jdk_43_method_13_code_34) (by decide) rfl ?_
  exact own_retN X0 hx hlocks hret (by simp) (hb hby own_d_jdk_43_method_13_code_35) (by decide) (by decide) (by decide) ⟨rfl, N0, e0⟩
set_option maxRecDepth 65536 in
set_option maxHeartbeats 40000000 in
theorem own_eqs2 (l : Launch) (Z : State) (a0 : Array Value) (hw : ∀ d ∈ tables_1, d.before a0 Z = true) (s1 s2 t2 : Addr) (k2 : ClassId) (b1  zc : Int32) (h0 : Heap) (n0 : Nat) (O0 : Old Z n0 h0) (SC : Sta Z Z.heap "java/lang/String" "COMPACT_STRINGS" "Z" (.int zc)) (hzc : ¬ zc = 0) (S1 : own_S1 Z h0 s1 b1) (Xs2 : Exa Z h0 s2 "java/lang/String") (Wl2 : Fld Z h0 s2 "java/lang/String" "value" "[B" (.ref t2)) (Cl2 : Fld Z h0 s2 "java/lang/String" "coder" "B" (.int (0 : Int32))) (Al2 : Arv Z h0 t2 k2 .byte (2 : Int32) [.int (46 : Int32), .int (46 : Int32)] (.int (0 : Int32))) :
    own_Met l (⟨"java/lang/String", "equals", "(Ljava/lang/Object;)Z"⟩ : MethodName) jdk_42_method_66_code 3 (some .boolean) ({ frames := 1, cells := 0, slots := 0, locals := 14 } : Room) Z #[(.ref s1), (.ref s2)] h0 (fun v h L => v = some (.int 0) ∧ Fr n0 L ∧ h = h0) := by
  refine own_met (plainFor_of_name own_pn_java_lang_String) ?_
  intro p e s m below meth c T0 hx hby hml hZ hown hnm hret hlocks X0 e0 hh0
  have ef : entryFrame m #[(.ref s1), (.ref s2)] 3 = mkF m 0 #[.val (.ref s1), .val (.ref s2), .unset] [] := by first | (simp [entryFrame, mkF, argsToLocals, Value.category]; done) | rfl
  refine own_entry ef ?_
  have N0 := Fr.nil n0
  obtain ⟨t1, kb1, Es1, Vs1, Cs1, Ks1, CB1⟩ := S1
  refine own_aloadN X0 hx (hb hby own_d_jdk_42_method_66_code_0) rfl rfl rfl ?_
  refine own_aloadN X0 hx (hb hby own_d_jdk_42_method_66_code_1) rfl rfl rfl ?_
  refine own_acmp_ne X0 hx (hb hby own_d_jdk_42_method_66_code_2) (by decide) rfl rfl (fun hc2_1 => ?_) (fun hc2_1 => ?_)
  · refine own_aloadN X0 hx (hb hby own_d_jdk_42_method_66_code_7) rfl rfl rfl ?_
    refine own_instY X0 hx hZ hown (hw _ (List.mem_of_getElem? (i := 26) rfl)) e0 (Ins.self Xs2) (hb hby own_d_jdk_42_method_66_code_8) rfl ?_
    intro T2 X2 e2
    refine own_ifF X2 hx (hb hby own_d_jdk_42_method_66_code_11) rfl (by decide) ?_
    refine own_aloadN X2 hx (hb hby own_d_jdk_42_method_66_code_14) rfl rfl rfl ?_
    refine own_castY X2 hx hZ hown (hw _ (List.mem_of_getElem? (i := 26) rfl)) e2 (Ins.self Xs2) (hb hby own_d_jdk_42_method_66_code_15) rfl ?_
    intro T3 X3 e3
    refine own_astoreN X3 hx #[.val (.ref s1), .val (.ref s2), .val (.ref s2)] (hb hby own_d_jdk_42_method_66_code_18) rfl rfl rfl ?_
    refine own_getS X3 hx hZ hown (host := "") (Or.inl (hw _ (List.mem_of_getElem? (i := 21) rfl))) Via.refl e3 (SC.ext O0.2) (hb hby own_d_jdk_42_method_66_code_19) rfl ?_
    intro T4 X4 e4
    refine own_ifF X4 hx (hb hby own_d_jdk_42_method_66_code_22) rfl (feq hzc).1 ?_
    refine own_aloadN X4 hx (hb hby own_d_jdk_42_method_66_code_25) rfl rfl rfl ?_
    refine own_getF X4 hx hZ hown (host := "") (Or.inl (hw _ (List.mem_of_getElem? (i := 38) rfl))) Via.refl e4 Cs1 (hb hby own_d_jdk_42_method_66_code_26) rfl ?_
    intro T5 X5 e5
    refine own_aloadN X5 hx (hb hby own_d_jdk_42_method_66_code_29) rfl rfl rfl ?_
    refine own_getF X5 hx hZ hown (host := "") (Or.inl (hw _ (List.mem_of_getElem? (i := 38) rfl))) Via.refl e5 Cl2 (hb hby own_d_jdk_42_method_66_code_30) rfl ?_
    intro T6 X6 e6
    refine own_icmpF X6 hx (hb hby own_d_jdk_42_method_66_code_33) rfl (by decide) ?_
    refine own_aloadN X6 hx (hb hby own_d_jdk_42_method_66_code_36) rfl rfl rfl ?_
    refine own_getF X6 hx hZ hown (host := "") (Or.inl (hw _ (List.mem_of_getElem? (i := 37) rfl))) Via.refl e6 Vs1 (hb hby own_d_jdk_42_method_66_code_37) rfl ?_
    intro T7 X7 e7
    refine own_aloadN X7 hx (hb hby own_d_jdk_42_method_66_code_40) rfl rfl rfl ?_
    refine own_getF X7 hx hZ hown (host := "") (Or.inl (hw _ (List.mem_of_getElem? (i := 37) rfl))) Via.refl e7 Wl2 (hb hby own_d_jdk_42_method_66_code_41) rfl ?_
    intro T8 X8 e8
    refine own_static X8 hx hZ (y := (⟨"java/lang/StringLatin1", "equals", "([B[B)Z"⟩ : MethodName)) hown (hw _ (List.mem_of_getElem? (i := 89) rfl)) (hw _ (List.mem_of_getElem? (i := 90) rfl)) (hw _ (List.mem_of_getElem? (i := 24) rfl)) (hw _ (List.mem_of_getElem? (i := 91) rfl)) (by decide) e8 (by decide) (W := 0) (by decide) (by decide) (by decide) [(.ref t1), (.ref t2)] [] (by rw [hml]; rfl) (own_l1e2 l Z a0 hw t1 t2 _ _ b1 h0 n0 Ks1 Al2) own_pd10 rfl rfl rfl (hb hby own_d_jdk_42_method_66_code_44) rfl ?_
    intro v9 T9 L9 X9 hQ9
    obtain ⟨rfl, Nq9, hh9⟩ := hQ9
    have N9 := Fr.app N0 Nq9
    show own_Ends p e below _ (T9.setTop (mkF m 47 #[.val (.ref s1), .val (.ref s2), .val (.ref s2)] [(.int (0 : Int32))]))
    refine own_ifT X9 hx (hb hby own_d_jdk_42_method_66_code_47) (by decide) rfl (by decide) ?_
    refine own_iconst X9 hx (0 : Int32) (hb hby own_d_jdk_42_method_66_code_54) (by decide) rfl ?_
    exact own_retN X9 hx hlocks hret (by simp) (hb hby own_d_jdk_42_method_66_code_55) (by decide) (by decide) (by decide) ⟨rfl, N9, hh9⟩
  · refine own_iconst X0 hx (1 : Int32) (hb hby own_d_jdk_42_method_66_code_5) (by decide) rfl ?_
    exact own_retN X0 hx hlocks hret (by simp) (hb hby own_d_jdk_42_method_66_code_6) (by decide) (by decide) (by decide) ⟨(by subst hc2_1; have e := own_fldU Vs1 Wl2; cases e; exact absurd (own_arvZ Ks1 Al2) (by decide)), N0, e0⟩
set_option maxRecDepth 65536 in
set_option maxHeartbeats 40000000 in
theorem own_max0 (l : Launch) (Z : State) (a0 : Array Value) (hw : ∀ d ∈ tables_1, d.before a0 Z = true)  (h0 : Heap) (n0 : Nat)  :
    own_Met l (⟨"java/lang/Math", "max", "(II)I"⟩ : MethodName) jdk_29_method_65_code 2 (some .int) ({ frames := 0, cells := 0, slots := 0, locals := 0 } : Room) Z #[(.int (0 : Int32)), (.int (0 : Int32))] h0 (fun v h L => v = some (.int (0 : Int32)) ∧ Fr n0 L ∧ h = h0) := by
  refine own_met (Jvm.Free.JP.mathPlain rfl (by decide +kernel)) ?_
  intro p e s m below meth c T0 hx hby hml hZ hown hnm hret hlocks X0 e0 hh0
  have ef : entryFrame m #[(.int (0 : Int32)), (.int (0 : Int32))] 2 = mkF m 0 #[.val (.int (0 : Int32)), .val (.int (0 : Int32))] [] := by first | (simp [entryFrame, mkF, argsToLocals, Value.category]; done) | rfl
  refine own_entry ef ?_
  have N0 := Fr.nil n0
  refine own_iloadN X0 hx (hb hby own_d_jdk_29_method_65_code_0) rfl rfl ?_
  refine own_iloadN X0 hx (hb hby own_d_jdk_29_method_65_code_1) rfl rfl ?_
  refine own_icmpF X0 hx (hb hby own_d_jdk_29_method_65_code_2) rfl (by decide) ?_
  refine own_iloadN X0 hx (hb hby own_d_jdk_29_method_65_code_5) rfl rfl ?_
  refine own_goto X0 hx (hb hby own_d_jdk_29_method_65_code_6) (by decide) rfl ?_
  exact own_retI X0 hx hlocks hret (hb hby own_d_jdk_29_method_65_code_10) (by decide) (by decide) ⟨rfl, N0, e0⟩
set_option maxRecDepth 65536 in
set_option maxHeartbeats 40000000 in
theorem own_min11 (l : Launch) (Z : State) (a0 : Array Value) (hw : ∀ d ∈ tables_1, d.before a0 Z = true)  (h0 : Heap) (n0 : Nat)  :
    own_Met l (⟨"java/lang/Math", "min", "(II)I"⟩ : MethodName) jdk_29_method_69_code 2 (some .int) ({ frames := 0, cells := 0, slots := 0, locals := 0 } : Room) Z #[(.int (1 : Int32)), (.int (1 : Int32))] h0 (fun v h L => v = some (.int (1 : Int32)) ∧ Fr n0 L ∧ h = h0) := by
  refine own_met (Jvm.Free.JP.mathPlain rfl (by decide +kernel)) ?_
  intro p e s m below meth c T0 hx hby hml hZ hown hnm hret hlocks X0 e0 hh0
  have ef : entryFrame m #[(.int (1 : Int32)), (.int (1 : Int32))] 2 = mkF m 0 #[.val (.int (1 : Int32)), .val (.int (1 : Int32))] [] := by first | (simp [entryFrame, mkF, argsToLocals, Value.category]; done) | rfl
  refine own_entry ef ?_
  have N0 := Fr.nil n0
  refine own_iloadN X0 hx (hb hby own_d_jdk_29_method_69_code_0) rfl rfl ?_
  refine own_iloadN X0 hx (hb hby own_d_jdk_29_method_69_code_1) rfl rfl ?_
  refine own_icmpF X0 hx (hb hby own_d_jdk_29_method_69_code_2) rfl (by decide) ?_
  refine own_iloadN X0 hx (hb hby own_d_jdk_29_method_69_code_5) rfl rfl ?_
  refine own_goto X0 hx (hb hby own_d_jdk_29_method_69_code_6) (by decide) rfl ?_
  exact own_retI X0 hx hlocks hret (hb hby own_d_jdk_29_method_69_code_10) (by decide) (by decide) ⟨rfl, N0, e0⟩
set_option maxRecDepth 65536 in
set_option maxHeartbeats 40000000 in
theorem own_min00 (l : Launch) (Z : State) (a0 : Array Value) (hw : ∀ d ∈ tables_1, d.before a0 Z = true)  (h0 : Heap) (n0 : Nat)  :
    own_Met l (⟨"java/lang/Math", "min", "(II)I"⟩ : MethodName) jdk_29_method_69_code 2 (some .int) ({ frames := 0, cells := 0, slots := 0, locals := 0 } : Room) Z #[(.int (0 : Int32)), (.int (0 : Int32))] h0 (fun v h L => v = some (.int (0 : Int32)) ∧ Fr n0 L ∧ h = h0) := by
  refine own_met (Jvm.Free.JP.mathPlain rfl (by decide +kernel)) ?_
  intro p e s m below meth c T0 hx hby hml hZ hown hnm hret hlocks X0 e0 hh0
  have ef : entryFrame m #[(.int (0 : Int32)), (.int (0 : Int32))] 2 = mkF m 0 #[.val (.int (0 : Int32)), .val (.int (0 : Int32))] [] := by first | (simp [entryFrame, mkF, argsToLocals, Value.category]; done) | rfl
  refine own_entry ef ?_
  have N0 := Fr.nil n0
  refine own_iloadN X0 hx (hb hby own_d_jdk_29_method_69_code_0) rfl rfl ?_
  refine own_iloadN X0 hx (hb hby own_d_jdk_29_method_69_code_1) rfl rfl ?_
  refine own_icmpF X0 hx (hb hby own_d_jdk_29_method_69_code_2) rfl (by decide) ?_
  refine own_iloadN X0 hx (hb hby own_d_jdk_29_method_69_code_5) rfl rfl ?_
  refine own_goto X0 hx (hb hby own_d_jdk_29_method_69_code_6) (by decide) rfl ?_
  exact own_retI X0 hx hlocks hret (hb hby own_d_jdk_29_method_69_code_10) (by decide) (by decide) ⟨rfl, N0, e0⟩
set_option maxRecDepth 65536 in
set_option maxHeartbeats 40000000 in
theorem own_min02 (l : Launch) (Z : State) (a0 : Array Value) (hw : ∀ d ∈ tables_1, d.before a0 Z = true)  (h0 : Heap) (n0 : Nat)  :
    own_Met l (⟨"java/lang/Math", "min", "(II)I"⟩ : MethodName) jdk_29_method_69_code 2 (some .int) ({ frames := 0, cells := 0, slots := 0, locals := 0 } : Room) Z #[(.int (0 : Int32)), (.int (2 : Int32))] h0 (fun v h L => v = some (.int (0 : Int32)) ∧ Fr n0 L ∧ h = h0) := by
  refine own_met (Jvm.Free.JP.mathPlain rfl (by decide +kernel)) ?_
  intro p e s m below meth c T0 hx hby hml hZ hown hnm hret hlocks X0 e0 hh0
  have ef : entryFrame m #[(.int (0 : Int32)), (.int (2 : Int32))] 2 = mkF m 0 #[.val (.int (0 : Int32)), .val (.int (2 : Int32))] [] := by first | (simp [entryFrame, mkF, argsToLocals, Value.category]; done) | rfl
  refine own_entry ef ?_
  have N0 := Fr.nil n0
  refine own_iloadN X0 hx (hb hby own_d_jdk_29_method_69_code_0) rfl rfl ?_
  refine own_iloadN X0 hx (hb hby own_d_jdk_29_method_69_code_1) rfl rfl ?_
  refine own_icmpF X0 hx (hb hby own_d_jdk_29_method_69_code_2) rfl (by decide) ?_
  refine own_iloadN X0 hx (hb hby own_d_jdk_29_method_69_code_5) rfl rfl ?_
  refine own_goto X0 hx (hb hby own_d_jdk_29_method_69_code_6) (by decide) rfl ?_
  exact own_retI X0 hx hlocks hret (hb hby own_d_jdk_29_method_69_code_10) (by decide) (by decide) ⟨rfl, N0, e0⟩
set_option maxRecDepth 65536 in
set_option maxHeartbeats 40000000 in
theorem own_min03 (l : Launch) (Z : State) (a0 : Array Value) (hw : ∀ d ∈ tables_1, d.before a0 Z = true)  (h0 : Heap) (n0 : Nat)  :
    own_Met l (⟨"java/lang/Math", "min", "(II)I"⟩ : MethodName) jdk_29_method_69_code 2 (some .int) ({ frames := 0, cells := 0, slots := 0, locals := 0 } : Room) Z #[(.int (0 : Int32)), (.int (3 : Int32))] h0 (fun v h L => v = some (.int (0 : Int32)) ∧ Fr n0 L ∧ h = h0) := by
  refine own_met (Jvm.Free.JP.mathPlain rfl (by decide +kernel)) ?_
  intro p e s m below meth c T0 hx hby hml hZ hown hnm hret hlocks X0 e0 hh0
  have ef : entryFrame m #[(.int (0 : Int32)), (.int (3 : Int32))] 2 = mkF m 0 #[.val (.int (0 : Int32)), .val (.int (3 : Int32))] [] := by first | (simp [entryFrame, mkF, argsToLocals, Value.category]; done) | rfl
  refine own_entry ef ?_
  have N0 := Fr.nil n0
  refine own_iloadN X0 hx (hb hby own_d_jdk_29_method_69_code_0) rfl rfl ?_
  refine own_iloadN X0 hx (hb hby own_d_jdk_29_method_69_code_1) rfl rfl ?_
  refine own_icmpF X0 hx (hb hby own_d_jdk_29_method_69_code_2) rfl (by decide) ?_
  refine own_iloadN X0 hx (hb hby own_d_jdk_29_method_69_code_5) rfl rfl ?_
  refine own_goto X0 hx (hb hby own_d_jdk_29_method_69_code_6) (by decide) rfl ?_
  exact own_retI X0 hx hlocks hret (hb hby own_d_jdk_29_method_69_code_10) (by decide) (by decide) ⟨rfl, N0, e0⟩
set_option maxRecDepth 65536 in
set_option maxHeartbeats 40000000 in
theorem own_ixc47 (l : Launch) (Z : State) (a0 : Array Value) (hw : ∀ d ∈ tables_1, d.before a0 Z = true) (t1 : Addr) (kb : ClassId) (b1 : Int32) (h0 : Heap) (n0 : Nat) (V0 : Arv Z h0 t1 kb .byte (1 : Int32) [.int b1] (.int (0 : Int32))) :
    own_Met l (⟨"java/lang/StringLatin1", "indexOfChar", "([BIII)I"⟩ : MethodName) jdk_43_method_23_code 6 (some .int) ({ frames := 0, cells := 0, slots := 0, locals := 0 } : Room) Z #[(.ref t1), (.int (47 : Int32)), (.int (0 : Int32)), (.int (1 : Int32))] h0 (fun v h L => v = some (.int (if b1 = (47 : Int32) then (0 : Int32) else (-1 : Int32))) ∧ Fr n0 L ∧ h = h0) := by
  refine own_met (plainFor_of_name own_pn_java_lang_StringLatin1) ?_
  intro p e s m below meth c T0 hx hby hml hZ hown hnm hret hlocks X0 e0 hh0
  have ef : entryFrame m #[(.ref t1), (.int (47 : Int32)), (.int (0 : Int32)), (.int (1 : Int32))] 6 = mkF m 0 #[.val (.ref t1), .val (.int (47 : Int32)), .val (.int (0 : Int32)), .val (.int (1 : Int32)), .unset, .unset] [] := by first | (simp [entryFrame, mkF, argsToLocals, Value.category]; done) | rfl
  refine own_entry ef ?_
  have N0 := Fr.nil n0
  refine own_iloadN X0 hx (hb hby own_d_jdk_43_method_23_code_0) rfl rfl ?_
  refine own_i2b X0 hx (hb hby own_d_jdk_43_method_23_code_1) rfl ?_
  rw [show ((47 : Int32).toInt8.toInt32) = (47 : Int32) from by decide]
  refine own_istore X0 hx #[.val (.ref t1), .val (.int (47 : Int32)), .val (.int (0 : Int32)), .val (.int (1 : Int32)), .val (.int (47 : Int32)), .unset] (hb hby own_d_jdk_43_method_23_code_2) rfl rfl ?_
  refine own_iloadN X0 hx (hb hby own_d_jdk_43_method_23_code_4) rfl rfl ?_
  refine own_istore X0 hx #[.val (.ref t1), .val (.int (47 : Int32)), .val (.int (0 : Int32)), .val (.int (1 : Int32)), .val (.int (47 : Int32)), .val (.int (0 : Int32))] (hb hby own_d_jdk_43_method_23_code_5) rfl rfl ?_
  refine own_iload X0 hx (hb hby own_d_jdk_43_method_23_code_7) rfl rfl ?_
  refine own_iloadN X0 hx (hb hby own_d_jdk_43_method_23_code_9) rfl rfl ?_
  refine own_icmpF X0 hx (hb hby own_d_jdk_43_method_23_code_10) rfl (by decide) ?_
  refine own_aloadN X0 hx (hb hby own_d_jdk_43_method_23_code_13) rfl rfl rfl ?_
  refine own_iload X0 hx (hb hby own_d_jdk_43_method_23_code_14) rfl rfl ?_
  refine own_baloadBytes X0 hx hZ e0 V0 ⟨by decide, by decide⟩ rfl (hb hby own_d_jdk_43_method_23_code_16) rfl ?_
  refine own_iload X0 hx (hb hby own_d_jdk_43_method_23_code_17) rfl rfl ?_
  refine own_icmp_ne X0 hx (hb hby own_d_jdk_43_method_23_code_19) (by decide) rfl rfl (fun hc19_1 => ?_) (fun hc19_1 => ?_)
  · refine own_iinc X0 hx #[.val (.ref t1), .val (.int (47 : Int32)), .val (.int (0 : Int32)), .val (.int (1 : Int32)), .val (.int (47 : Int32)), .val (.int (1 : Int32))] (hb hby own_d_jdk_43_method_23_code_25) rfl rfl rfl ?_
    refine own_goto X0 hx (hb hby own_d_jdk_43_method_23_code_28) (by decide) rfl ?_
    refine own_iload X0 hx (hb hby own_d_jdk_43_method_23_code_7) rfl rfl ?_
    refine own_iloadN X0 hx (hb hby own_d_jdk_43_method_23_code_9) rfl rfl ?_
    refine own_icmpT X0 hx (hb hby own_d_jdk_43_method_23_code_10) (by decide) rfl (by decide) ?_
    refine own_iconst X0 hx (-1 : Int32) (hb hby own_d_jdk_43_method_23_code_31) (by decide) rfl ?_
    exact own_retI X0 hx hlocks hret (hb hby own_d_jdk_43_method_23_code_32) (by decide) (by decide) ⟨congrArg (fun q => some (Value.int q)) (by simp only [if_neg hc19_1]), N0, e0⟩
  · refine own_iload X0 hx (hb hby own_d_jdk_43_method_23_code_22) rfl rfl ?_
    exact own_retI X0 hx hlocks hret (hb hby own_d_jdk_43_method_23_code_24) (by decide) (by decide) ⟨congrArg (fun q => some (Value.int q)) (by simp only [if_pos hc19_1]), N0, e0⟩
set_option maxRecDepth 65536 in
set_option maxHeartbeats 40000000 in
theorem own_cen47 (l : Launch) (Z : State) (a0 : Array Value) (hw : ∀ d ∈ tables_1, d.before a0 Z = true)  (h0 : Heap) (n0 : Nat)  :
    own_Met l (⟨"java/lang/StringLatin1", "canEncode", "(I)Z"⟩ : MethodName) jdk_43_method_4_code 1 (some .boolean) ({ frames := 0, cells := 0, slots := 0, locals := 0 } : Room) Z #[(.int (47 : Int32))] h0 (fun v h L => v = some (.int (1 : Int32)) ∧ Fr n0 L ∧ h = h0) := by
  refine own_met (plainFor_of_name own_pn_java_lang_StringLatin1) ?_
  intro p e s m below meth c T0 hx hby hml hZ hown hnm hret hlocks X0 e0 hh0
  have ef : entryFrame m #[(.int (47 : Int32))] 1 = mkF m 0 #[.val (.int (47 : Int32))] [] := by first | (simp [entryFrame, mkF, argsToLocals, Value.category]; done) | rfl
  refine own_entry ef ?_
  have N0 := Fr.nil n0
  refine own_iloadN X0 hx (hb hby own_d_jdk_43_method_4_code_0) rfl rfl ?_
  refine own_ifF X0 hx (hb hby own_d_jdk_43_method_4_code_1) rfl (by decide) ?_
  refine own_iloadN X0 hx (hb hby own_d_jdk_43_method_4_code_4) rfl rfl ?_
  refine own_sipush X0 hx (255 : Int32) (hb hby own_d_jdk_43_method_4_code_5) (by decide) rfl ?_
  refine own_icmpF X0 hx (hb hby own_d_jdk_43_method_4_code_8) rfl (by decide) ?_
  refine own_iconst X0 hx (1 : Int32) (hb hby own_d_jdk_43_method_4_code_11) (by decide) rfl ?_
  refine own_goto X0 hx (hb hby own_d_jdk_43_method_4_code_12) (by decide) rfl ?_
  exact own_retN X0 hx hlocks hret (by simp) (hb hby own_d_jdk_43_method_4_code_16) (by decide) (by decide) (by decide) ⟨rfl, N0, e0⟩
set_option maxRecDepth 65536 in
set_option maxHeartbeats 40000000 in
theorem own_ixl47 (l : Launch) (Z : State) (a0 : Array Value) (hw : ∀ d ∈ tables_1, d.before a0 Z = true) (t1 : Addr) (kb : ClassId) (b1 : Int32) (h0 : Heap) (n0 : Nat) (V0 : Arv Z h0 t1 kb .byte (1 : Int32) [.int b1] (.int (0 : Int32))) :
    own_Met l (⟨"java/lang/StringLatin1", "indexOf", "([BIII)I"⟩ : MethodName) jdk_43_method_22_code 4 (some .int) ({ frames := 1, cells := 0, slots := 0, locals := 17 } : Room) Z #[(.ref t1), (.int (47 : Int32)), (.int (0 : Int32)), (.int (1 : Int32))] h0 (fun v h L => v = some (.int (if b1 = (47 : Int32) then (0 : Int32) else (-1 : Int32))) ∧ Fr n0 L ∧ h = h0) := by
  refine own_met (plainFor_of_name own_pn_java_lang_StringLatin1) ?_
  intro p e s m below meth c T0 hx hby hml hZ hown hnm hret hlocks X0 e0 hh0
  have ef : entryFrame m #[(.ref t1), (.int (47 : Int32)), (.int (0 : Int32)), (.int (1 : Int32))] 4 = mkF m 0 #[.val (.ref t1), .val (.int (47 : Int32)), .val (.int (0 : Int32)), .val (.int (1 : Int32))] [] := by first | (simp [entryFrame, mkF, argsToLocals, Value.category]; done) | rfl
  refine own_entry ef ?_
  have N0 := Fr.nil n0
  refine own_iloadN X0 hx (hb hby own_d_jdk_43_method_22_code_0) rfl rfl ?_
  refine own_static X0 hx hZ (y := (⟨"java/lang/StringLatin1", "canEncode", "(I)Z"⟩ : MethodName)) hown (hw _ (List.mem_of_getElem? (i := 116) rfl)) (hw _ (List.mem_of_getElem? (i := 117) rfl)) (hw _ (List.mem_of_getElem? (i := 24) rfl)) (hw _ (List.mem_of_getElem? (i := 118) rfl)) (by decide) e0 (by decide) (W := 0) (by decide) (by decide) (by decide) [(.int (47 : Int32))] [] (by rw [hml]; rfl) (own_cen47 l Z a0 hw h0 n0) own_pd11 rfl rfl rfl (hb hby own_d_jdk_43_method_22_code_1) rfl ?_
  intro v1 T1 L1 X1 hQ1
  obtain ⟨rfl, Nq1, hh1⟩ := hQ1
  have N1 := Fr.app N0 Nq1
  show own_Ends p e below _ (T1.setTop (mkF m 4 #[.val (.ref t1), .val (.int (47 : Int32)), .val (.int (0 : Int32)), .val (.int (1 : Int32))] [(.int (1 : Int32))]))
  refine own_ifT X1 hx (hb hby own_d_jdk_43_method_22_code_4) (by decide) rfl (by decide) ?_
  refine own_iloadN X1 hx (hb hby own_d_jdk_43_method_22_code_9) rfl rfl ?_
  refine own_iconst X1 hx (0 : Int32) (hb hby own_d_jdk_43_method_22_code_10) (by decide) rfl ?_
  refine own_static X1 hx hZ (y := (⟨"java/lang/Math", "max", "(II)I"⟩ : MethodName)) hown (hw _ (List.mem_of_getElem? (i := 119) rfl)) (hw _ (List.mem_of_getElem? (i := 120) rfl)) (hw _ (List.mem_of_getElem? (i := 121) rfl)) (hw _ (List.mem_of_getElem? (i := 122) rfl)) (by decide) hh1 (by decide) (W := 0) (by decide) (by decide) (by decide) [(.int (0 : Int32)), (.int (0 : Int32))] [] (by rw [hml]; rfl) (own_max0 l Z a0 hw h0 n0) own_pd12 rfl rfl rfl (hb hby own_d_jdk_43_method_22_code_11) rfl ?_
  intro v2 T2 L2 X2 hQ2
  obtain ⟨rfl, Nq2, hh2⟩ := hQ2
  have N2 := Fr.app N1 Nq2
  show own_Ends p e below _ (T2.setTop (mkF m 14 #[.val (.ref t1), .val (.int (47 : Int32)), .val (.int (0 : Int32)), .val (.int (1 : Int32))] [(.int (0 : Int32))]))
  refine own_istoreN X2 hx #[.val (.ref t1), .val (.int (47 : Int32)), .val (.int (0 : Int32)), .val (.int (1 : Int32))] (hb hby own_d_jdk_43_method_22_code_14) rfl rfl ?_
  refine own_iloadN X2 hx (hb hby own_d_jdk_43_method_22_code_15) rfl rfl ?_
  refine own_aloadN X2 hx (hb hby own_d_jdk_43_method_22_code_16) rfl rfl rfl ?_
  refine own_arraylength X2 hx hZ hh2 V0 (hb hby own_d_jdk_43_method_22_code_17) rfl ?_
  refine own_static X2 hx hZ (y := (⟨"java/lang/Math", "min", "(II)I"⟩ : MethodName)) hown (hw _ (List.mem_of_getElem? (i := 123) rfl)) (hw _ (List.mem_of_getElem? (i := 124) rfl)) (hw _ (List.mem_of_getElem? (i := 121) rfl)) (hw _ (List.mem_of_getElem? (i := 125) rfl)) (by decide) hh2 (by decide) (W := 0) (by decide) (by decide) (by decide) [(.int (1 : Int32)), (.int (1 : Int32))] [] (by rw [hml]; rfl) (own_min11 l Z a0 hw h0 n0) own_pd12 rfl rfl rfl (hb hby own_d_jdk_43_method_22_code_18) rfl ?_
  intro v3 T3 L3 X3 hQ3
  obtain ⟨rfl, Nq3, hh3⟩ := hQ3
  have N3 := Fr.app N2 Nq3
  show own_Ends p e below _ (T3.setTop (mkF m 21 #[.val (.ref t1), .val (.int (47 : Int32)), .val (.int (0 : Int32)), .val (.int (1 : Int32))] [(.int (1 : Int32))]))
  refine own_istoreN X3 hx #[.val (.ref t1), .val (.int (47 : Int32)), .val (.int (0 : Int32)), .val (.int (1 : Int32))] (hb hby own_d_jdk_43_method_22_code_21) rfl rfl ?_
  refine own_iloadN X3 hx (hb hby own_d_jdk_43_method_22_code_22) rfl rfl ?_
  refine own_iloadN X3 hx (hb hby own_d_jdk_43_method_22_code_23) rfl rfl ?_
  refine own_icmpT X3 hx (hb hby own_d_jdk_43_method_22_code_24) (by decide) rfl (by decide) ?_
  refine own_aloadN X3 hx (hb hby own_d_jdk_43_method_22_code_29) rfl rfl rfl ?_
  refine own_iloadN X3 hx (hb hby own_d_jdk_43_method_22_code_30) rfl rfl ?_
  refine own_iloadN X3 hx (hb hby own_d_jdk_43_method_22_code_31) rfl rfl ?_
  refine own_iloadN X3 hx (hb hby own_d_jdk_43_method_22_code_32) rfl rfl ?_
  refine own_static X3 hx hZ (y := (⟨"java/lang/StringLatin1", "indexOfChar", "([BIII)I"⟩ : MethodName)) hown (hw _ (List.mem_of_getElem? (i := 126) rfl)) (hw _ (List.mem_of_getElem? (i := 127) rfl)) (hw _ (List.mem_of_getElem? (i := 24) rfl)) (hw _ (List.mem_of_getElem? (i := 128) rfl)) (by decide) hh3 (by decide) (W := 0) (by decide) (by decide) (by decide) [(.ref t1), (.int (47 : Int32)), (.int (0 : Int32)), (.int (1 : Int32))] [] (by rw [hml]; rfl) (own_ixc47 l Z a0 hw t1 _ b1 h0 n0 V0) own_pd13 rfl rfl rfl (hb hby own_d_jdk_43_method_22_code_33) rfl ?_
  intro v4 T4 L4 X4 hQ4
  obtain ⟨rfl, Nq4, hh4⟩ := hQ4
  have N4 := Fr.app N3 Nq4
  show own_Ends p e below _ (T4.setTop (mkF m 36 #[.val (.ref t1), .val (.int (47 : Int32)), .val (.int (0 : Int32)), .val (.int (1 : Int32))] [(.int (if b1 = (47 : Int32) then (0 : Int32) else (-1 : Int32)))]))
  exact own_retI X4 hx hlocks hret (hb hby own_d_jdk_43_method_22_code_36) (by decide) (by decide) ⟨rfl, N4, hh4⟩
set_option maxRecDepth 65536 in
set_option maxHeartbeats 40000000 in
theorem own_ix2_47 (l : Launch) (Z : State) (a0 : Array Value) (hw : ∀ d ∈ tables_1, d.before a0 Z = true) (s1 : Addr) (b1 zc : Int32) (h0 : Heap) (n0 : Nat) (O0 : Old Z n0 h0) (SC : Sta Z Z.heap "java/lang/String" "COMPACT_STRINGS" "Z" (.int zc)) (hzc : ¬ zc = 0) (S1 : own_S1 Z h0 s1 b1) :
    own_Met l (⟨"java/lang/String", "indexOf", "(II)I"⟩ : MethodName) jdk_42_method_80_code 3 (some .int) ({ frames := 2, cells := 0, slots := 0, locals := 32 } : Room) Z #[(.ref s1), (.int (47 : Int32)), (.int (0 : Int32))] h0 (fun v h L => v = some (.int (if b1 = (47 : Int32) then (0 : Int32) else (-1 : Int32))) ∧ Fr n0 L ∧ h = h0) := by
  refine own_met (plainFor_of_name own_pn_java_lang_String) ?_
  intro p e s m below meth c T0 hx hby hml hZ hown hnm hret hlocks X0 e0 hh0
  have ef : entryFrame m #[(.ref s1), (.int (47 : Int32)), (.int (0 : Int32))] 3 = mkF m 0 #[.val (.ref s1), .val (.int (47 : Int32)), .val (.int (0 : Int32))] [] := by first | (simp [entryFrame, mkF, argsToLocals, Value.category]; done) | rfl
  refine own_entry ef ?_
  have N0 := Fr.nil n0
  obtain ⟨t1, kb1, Es1, Vs1, Cs1, Ks1, CB1⟩ := S1
  refine own_aloadN X0 hx (hb hby own_d_jdk_42_method_80_code_0) rfl rfl rfl ?_
  refine own_virtual X0 hx hZ (y := (⟨"java/lang/String", "isLatin1", "()Z"⟩ : MethodName)) (z := (⟨"java/lang/String", "isLatin1", "()Z"⟩ : MethodName)) hown (hw _ (List.mem_of_getElem? (i := 103) rfl)) (hw _ (List.mem_of_getElem? (i := 104) rfl)) (notFace_of_selects (args := #[]) (mvT hZ (hw _ (List.mem_of_getElem? (i := 106) rfl)))) (hw _ (List.mem_of_getElem? (i := 106) rfl)) (hw _ (List.mem_of_getElem? (i := 105) rfl)) (hw _ (List.mem_of_getElem? (i := 4) rfl)) (hw _ (List.mem_of_getElem? (i := 107) rfl)) (by decide) e0 (by decide) (W := 0) (by decide) (by decide) (by decide) [] [] (by rw [hml]; rfl) Es1 (own_isL l Z a0 hw s1 b1 zc h0 n0 O0 SC hzc ⟨_, _, Es1, Vs1, Cs1, Ks1, CB1⟩) own_pd14 rfl rfl rfl (hb hby own_d_jdk_42_method_80_code_1) rfl ?_
  intro v1 T1 L1 X1 hQ1
  obtain ⟨rfl, Nq1, hh1⟩ := hQ1
  have N1 := Fr.app N0 Nq1
  show own_Ends p e below _ (T1.setTop (mkF m 4 #[.val (.ref s1), .val (.int (47 : Int32)), .val (.int (0 : Int32))] [(.int (1 : Int32))]))
  refine own_ifF X1 hx (hb hby own_d_jdk_42_method_80_code_4) rfl (by decide) ?_
  refine own_aloadN X1 hx (hb hby own_d_jdk_42_method_80_code_7) rfl rfl rfl ?_
  refine own_getF X1 hx hZ hown (host := "") (Or.inl (hw _ (List.mem_of_getElem? (i := 37) rfl))) Via.refl hh1 Vs1 (hb hby own_d_jdk_42_method_80_code_8) rfl ?_
  intro T2 X2 e2
  refine own_iloadN X2 hx (hb hby own_d_jdk_42_method_80_code_11) rfl rfl ?_
  refine own_iloadN X2 hx (hb hby own_d_jdk_42_method_80_code_12) rfl rfl ?_
  refine own_aloadN X2 hx (hb hby own_d_jdk_42_method_80_code_13) rfl rfl rfl ?_
  refine own_virtual X2 hx hZ (y := (⟨"java/lang/String", "length", "()I"⟩ : MethodName)) (z := (⟨"java/lang/String", "length", "()I"⟩ : MethodName)) hown (hw _ (List.mem_of_getElem? (i := 108) rfl)) (hw _ (List.mem_of_getElem? (i := 109) rfl)) (notFace_of_selects (args := #[]) (mvT hZ (hw _ (List.mem_of_getElem? (i := 111) rfl)))) (hw _ (List.mem_of_getElem? (i := 111) rfl)) (hw _ (List.mem_of_getElem? (i := 110) rfl)) (hw _ (List.mem_of_getElem? (i := 4) rfl)) (hw _ (List.mem_of_getElem? (i := 112) rfl)) (by decide) e2 (by decide) (W := 3) (by decide) (by decide) (by decide) [] [(.int (0 : Int32)), (.int (47 : Int32)), (.ref t1)] (by rw [hml]; rfl) Es1 (own_len l Z a0 hw s1 b1 zc h0 n0 O0 SC hzc ⟨_, _, Es1, Vs1, Cs1, Ks1, CB1⟩) own_pd15 rfl rfl rfl (hb hby own_d_jdk_42_method_80_code_14) rfl ?_
  intro v3 T3 L3 X3 hQ3
  obtain ⟨rfl, Nq3, hh3⟩ := hQ3
  have N3 := Fr.app N1 Nq3
  show own_Ends p e below _ (T3.setTop (mkF m 17 #[.val (.ref s1), .val (.int (47 : Int32)), .val (.int (0 : Int32))] [(.int (1 : Int32)), (.int (0 : Int32)), (.int (47 : Int32)), (.ref t1)]))
  refine own_static X3 hx hZ (y := (⟨"java/lang/StringLatin1", "indexOf", "([BIII)I"⟩ : MethodName)) hown (hw _ (List.mem_of_getElem? (i := 113) rfl)) (hw _ (List.mem_of_getElem? (i := 114) rfl)) (hw _ (List.mem_of_getElem? (i := 24) rfl)) (hw _ (List.mem_of_getElem? (i := 115) rfl)) (by decide) hh3 (by decide) (W := 0) (by decide) (by decide) (by decide) [(.ref t1), (.int (47 : Int32)), (.int (0 : Int32)), (.int (1 : Int32))] [] (by rw [hml]; rfl) (own_ixl47 l Z a0 hw t1 _ b1 h0 n0 Ks1) own_pd13 rfl rfl rfl (hb hby own_d_jdk_42_method_80_code_17) rfl ?_
  intro v4 T4 L4 X4 hQ4
  obtain ⟨rfl, Nq4, hh4⟩ := hQ4
  have N4 := Fr.app N3 Nq4
  show own_Ends p e below _ (T4.setTop (mkF m 20 #[.val (.ref s1), .val (.int (47 : Int32)), .val (.int (0 : Int32))] [(.int (if b1 = (47 : Int32) then (0 : Int32) else (-1 : Int32)))]))
  refine own_goto X4 hx (hb hby own_d_jdk_42_method_80_code_20) (by decide) rfl ?_
  exact own_retI X4 hx hlocks hret (hb hby own_d_jdk_42_method_80_code_36) (by decide) (by decide) ⟨rfl, N4, hh4⟩
set_option maxRecDepth 65536 in
set_option maxHeartbeats 40000000 in
theorem own_ix1_47 (l : Launch) (Z : State) (a0 : Array Value) (hw : ∀ d ∈ tables_1, d.before a0 Z = true) (s1 : Addr) (b1 zc : Int32) (h0 : Heap) (n0 : Nat) (O0 : Old Z n0 h0) (SC : Sta Z Z.heap "java/lang/String" "COMPACT_STRINGS" "Z" (.int zc)) (hzc : ¬ zc = 0) (S1 : own_S1 Z h0 s1 b1) :
    own_Met l (⟨"java/lang/String", "indexOf", "(I)I"⟩ : MethodName) jdk_42_method_79_code 2 (some .int) ({ frames := 3, cells := 0, slots := 0, locals := 46 } : Room) Z #[(.ref s1), (.int (47 : Int32))] h0 (fun v h L => v = some (.int (if b1 = (47 : Int32) then (0 : Int32) else (-1 : Int32))) ∧ Fr n0 L ∧ h = h0) := by
  refine own_met (plainFor_of_name own_pn_java_lang_String) ?_
  intro p e s m below meth c T0 hx hby hml hZ hown hnm hret hlocks X0 e0 hh0
  have ef : entryFrame m #[(.ref s1), (.int (47 : Int32))] 2 = mkF m 0 #[.val (.ref s1), .val (.int (47 : Int32))] [] := by first | (simp [entryFrame, mkF, argsToLocals, Value.category]; done) | rfl
  refine own_entry ef ?_
  have N0 := Fr.nil n0
  obtain ⟨t1, kb1, Es1, Vs1, Cs1, Ks1, CB1⟩ := S1
  refine own_aloadN X0 hx (hb hby own_d_jdk_42_method_79_code_0) rfl rfl rfl ?_
  refine own_iloadN X0 hx (hb hby own_d_jdk_42_method_79_code_1) rfl rfl ?_
  refine own_iconst X0 hx (0 : Int32) (hb hby own_d_jdk_42_method_79_code_2) (by decide) rfl ?_
  refine own_virtual X0 hx hZ (y := (⟨"java/lang/String", "indexOf", "(II)I"⟩ : MethodName)) (z := (⟨"java/lang/String", "indexOf", "(II)I"⟩ : MethodName)) hown (hw _ (List.mem_of_getElem? (i := 98) rfl)) (hw _ (List.mem_of_getElem? (i := 99) rfl)) (notFace_of_selects (args := #[]) (mvT hZ (hw _ (List.mem_of_getElem? (i := 101) rfl)))) (hw _ (List.mem_of_getElem? (i := 101) rfl)) (hw _ (List.mem_of_getElem? (i := 100) rfl)) (hw _ (List.mem_of_getElem? (i := 4) rfl)) (hw _ (List.mem_of_getElem? (i := 102) rfl)) (by decide) e0 (by decide) (W := 0) (by decide) (by decide) (by decide) [(.int (47 : Int32)), (.int (0 : Int32))] [] (by rw [hml]; rfl) Es1 (own_ix2_47 l Z a0 hw s1 b1 zc h0 n0 O0 SC hzc ⟨_, _, Es1, Vs1, Cs1, Ks1, CB1⟩) own_pd12 rfl rfl rfl (hb hby own_d_jdk_42_method_79_code_3) rfl ?_
  intro v1 T1 L1 X1 hQ1
  obtain ⟨rfl, Nq1, hh1⟩ := hQ1
  have N1 := Fr.app N0 Nq1
  show own_Ends p e below _ (T1.setTop (mkF m 6 #[.val (.ref s1), .val (.int (47 : Int32))] [(.int (if b1 = (47 : Int32) then (0 : Int32) else (-1 : Int32)))]))
  exact own_retI X1 hx hlocks hret (hb hby own_d_jdk_42_method_79_code_6) (by decide) (by decide) ⟨rfl, N1, hh1⟩
set_option maxRecDepth 65536 in
set_option maxHeartbeats 40000000 in
theorem own_ixc0 (l : Launch) (Z : State) (a0 : Array Value) (hw : ∀ d ∈ tables_1, d.before a0 Z = true) (t1 : Addr) (kb : ClassId) (b1 : Int32) (h0 : Heap) (n0 : Nat) (V0 : Arv Z h0 t1 kb .byte (1 : Int32) [.int b1] (.int (0 : Int32))) :
    own_Met l (⟨"java/lang/StringLatin1", "indexOfChar", "([BIII)I"⟩ : MethodName) jdk_43_method_23_code 6 (some .int) ({ frames := 0, cells := 0, slots := 0, locals := 0 } : Room) Z #[(.ref t1), (.int (0 : Int32)), (.int (0 : Int32)), (.int (1 : Int32))] h0 (fun v h L => v = some (.int (if b1 = (0 : Int32) then (0 : Int32) else (-1 : Int32))) ∧ Fr n0 L ∧ h = h0) := by
  refine own_met (plainFor_of_name own_pn_java_lang_StringLatin1) ?_
  intro p e s m below meth c T0 hx hby hml hZ hown hnm hret hlocks X0 e0 hh0
  have ef : entryFrame m #[(.ref t1), (.int (0 : Int32)), (.int (0 : Int32)), (.int (1 : Int32))] 6 = mkF m 0 #[.val (.ref t1), .val (.int (0 : Int32)), .val (.int (0 : Int32)), .val (.int (1 : Int32)), .unset, .unset] [] := by first | (simp [entryFrame, mkF, argsToLocals, Value.category]; done) | rfl
  refine own_entry ef ?_
  have N0 := Fr.nil n0
  refine own_iloadN X0 hx (hb hby own_d_jdk_43_method_23_code_0) rfl rfl ?_
  refine own_i2b X0 hx (hb hby own_d_jdk_43_method_23_code_1) rfl ?_
  rw [show ((0 : Int32).toInt8.toInt32) = (0 : Int32) from by decide]
  refine own_istore X0 hx #[.val (.ref t1), .val (.int (0 : Int32)), .val (.int (0 : Int32)), .val (.int (1 : Int32)), .val (.int (0 : Int32)), .unset] (hb hby own_d_jdk_43_method_23_code_2) rfl rfl ?_
  refine own_iloadN X0 hx (hb hby own_d_jdk_43_method_23_code_4) rfl rfl ?_
  refine own_istore X0 hx #[.val (.ref t1), .val (.int (0 : Int32)), .val (.int (0 : Int32)), .val (.int (1 : Int32)), .val (.int (0 : Int32)), .val (.int (0 : Int32))] (hb hby own_d_jdk_43_method_23_code_5) rfl rfl ?_
  refine own_iload X0 hx (hb hby own_d_jdk_43_method_23_code_7) rfl rfl ?_
  refine own_iloadN X0 hx (hb hby own_d_jdk_43_method_23_code_9) rfl rfl ?_
  refine own_icmpF X0 hx (hb hby own_d_jdk_43_method_23_code_10) rfl (by decide) ?_
  refine own_aloadN X0 hx (hb hby own_d_jdk_43_method_23_code_13) rfl rfl rfl ?_
  refine own_iload X0 hx (hb hby own_d_jdk_43_method_23_code_14) rfl rfl ?_
  refine own_baloadBytes X0 hx hZ e0 V0 ⟨by decide, by decide⟩ rfl (hb hby own_d_jdk_43_method_23_code_16) rfl ?_
  refine own_iload X0 hx (hb hby own_d_jdk_43_method_23_code_17) rfl rfl ?_
  refine own_icmp_ne X0 hx (hb hby own_d_jdk_43_method_23_code_19) (by decide) rfl rfl (fun hc19_1 => ?_) (fun hc19_1 => ?_)
  · refine own_iinc X0 hx #[.val (.ref t1), .val (.int (0 : Int32)), .val (.int (0 : Int32)), .val (.int (1 : Int32)), .val (.int (0 : Int32)), .val (.int (1 : Int32))] (hb hby own_d_jdk_43_method_23_code_25) rfl rfl rfl ?_
    refine own_goto X0 hx (hb hby own_d_jdk_43_method_23_code_28) (by decide) rfl ?_
    refine own_iload X0 hx (hb hby own_d_jdk_43_method_23_code_7) rfl rfl ?_
    refine own_iloadN X0 hx (hb hby own_d_jdk_43_method_23_code_9) rfl rfl ?_
    refine own_icmpT X0 hx (hb hby own_d_jdk_43_method_23_code_10) (by decide) rfl (by decide) ?_
    refine own_iconst X0 hx (-1 : Int32) (hb hby own_d_jdk_43_method_23_code_31) (by decide) rfl ?_
    exact own_retI X0 hx hlocks hret (hb hby own_d_jdk_43_method_23_code_32) (by decide) (by decide) ⟨congrArg (fun q => some (Value.int q)) (by simp only [if_neg hc19_1]), N0, e0⟩
  · refine own_iload X0 hx (hb hby own_d_jdk_43_method_23_code_22) rfl rfl ?_
    exact own_retI X0 hx hlocks hret (hb hby own_d_jdk_43_method_23_code_24) (by decide) (by decide) ⟨congrArg (fun q => some (Value.int q)) (by simp only [if_pos hc19_1]), N0, e0⟩
set_option maxRecDepth 65536 in
set_option maxHeartbeats 40000000 in
theorem own_cen0 (l : Launch) (Z : State) (a0 : Array Value) (hw : ∀ d ∈ tables_1, d.before a0 Z = true)  (h0 : Heap) (n0 : Nat)  :
    own_Met l (⟨"java/lang/StringLatin1", "canEncode", "(I)Z"⟩ : MethodName) jdk_43_method_4_code 1 (some .boolean) ({ frames := 0, cells := 0, slots := 0, locals := 0 } : Room) Z #[(.int (0 : Int32))] h0 (fun v h L => v = some (.int (1 : Int32)) ∧ Fr n0 L ∧ h = h0) := by
  refine own_met (plainFor_of_name own_pn_java_lang_StringLatin1) ?_
  intro p e s m below meth c T0 hx hby hml hZ hown hnm hret hlocks X0 e0 hh0
  have ef : entryFrame m #[(.int (0 : Int32))] 1 = mkF m 0 #[.val (.int (0 : Int32))] [] := by first | (simp [entryFrame, mkF, argsToLocals, Value.category]; done) | rfl
  refine own_entry ef ?_
  have N0 := Fr.nil n0
  refine own_iloadN X0 hx (hb hby own_d_jdk_43_method_4_code_0) rfl rfl ?_
  refine own_ifF X0 hx (hb hby own_d_jdk_43_method_4_code_1) rfl (by decide) ?_
  refine own_iloadN X0 hx (hb hby own_d_jdk_43_method_4_code_4) rfl rfl ?_
  refine own_sipush X0 hx (255 : Int32) (hb hby own_d_jdk_43_method_4_code_5) (by decide) rfl ?_
  refine own_icmpF X0 hx (hb hby own_d_jdk_43_method_4_code_8) rfl (by decide) ?_
  refine own_iconst X0 hx (1 : Int32) (hb hby own_d_jdk_43_method_4_code_11) (by decide) rfl ?_
  refine own_goto X0 hx (hb hby own_d_jdk_43_method_4_code_12) (by decide) rfl ?_
  exact own_retN X0 hx hlocks hret (by simp) (hb hby own_d_jdk_43_method_4_code_16) (by decide) (by decide) (by decide) ⟨rfl, N0, e0⟩
set_option maxRecDepth 65536 in
set_option maxHeartbeats 40000000 in
theorem own_ixl0 (l : Launch) (Z : State) (a0 : Array Value) (hw : ∀ d ∈ tables_1, d.before a0 Z = true) (t1 : Addr) (kb : ClassId) (b1 : Int32) (h0 : Heap) (n0 : Nat) (V0 : Arv Z h0 t1 kb .byte (1 : Int32) [.int b1] (.int (0 : Int32))) :
    own_Met l (⟨"java/lang/StringLatin1", "indexOf", "([BIII)I"⟩ : MethodName) jdk_43_method_22_code 4 (some .int) ({ frames := 1, cells := 0, slots := 0, locals := 17 } : Room) Z #[(.ref t1), (.int (0 : Int32)), (.int (0 : Int32)), (.int (1 : Int32))] h0 (fun v h L => v = some (.int (if b1 = (0 : Int32) then (0 : Int32) else (-1 : Int32))) ∧ Fr n0 L ∧ h = h0) := by
  refine own_met (plainFor_of_name own_pn_java_lang_StringLatin1) ?_
  intro p e s m below meth c T0 hx hby hml hZ hown hnm hret hlocks X0 e0 hh0
  have ef : entryFrame m #[(.ref t1), (.int (0 : Int32)), (.int (0 : Int32)), (.int (1 : Int32))] 4 = mkF m 0 #[.val (.ref t1), .val (.int (0 : Int32)), .val (.int (0 : Int32)), .val (.int (1 : Int32))] [] := by first | (simp [entryFrame, mkF, argsToLocals, Value.category]; done) | rfl
  refine own_entry ef ?_
  have N0 := Fr.nil n0
  refine own_iloadN X0 hx (hb hby own_d_jdk_43_method_22_code_0) rfl rfl ?_
  refine own_static X0 hx hZ (y := (⟨"java/lang/StringLatin1", "canEncode", "(I)Z"⟩ : MethodName)) hown (hw _ (List.mem_of_getElem? (i := 116) rfl)) (hw _ (List.mem_of_getElem? (i := 117) rfl)) (hw _ (List.mem_of_getElem? (i := 24) rfl)) (hw _ (List.mem_of_getElem? (i := 118) rfl)) (by decide) e0 (by decide) (W := 0) (by decide) (by decide) (by decide) [(.int (0 : Int32))] [] (by rw [hml]; rfl) (own_cen0 l Z a0 hw h0 n0) own_pd11 rfl rfl rfl (hb hby own_d_jdk_43_method_22_code_1) rfl ?_
  intro v1 T1 L1 X1 hQ1
  obtain ⟨rfl, Nq1, hh1⟩ := hQ1
  have N1 := Fr.app N0 Nq1
  show own_Ends p e below _ (T1.setTop (mkF m 4 #[.val (.ref t1), .val (.int (0 : Int32)), .val (.int (0 : Int32)), .val (.int (1 : Int32))] [(.int (1 : Int32))]))
  refine own_ifT X1 hx (hb hby own_d_jdk_43_method_22_code_4) (by decide) rfl (by decide) ?_
  refine own_iloadN X1 hx (hb hby own_d_jdk_43_method_22_code_9) rfl rfl ?_
  refine own_iconst X1 hx (0 : Int32) (hb hby own_d_jdk_43_method_22_code_10) (by decide) rfl ?_
  refine own_static X1 hx hZ (y := (⟨"java/lang/Math", "max", "(II)I"⟩ : MethodName)) hown (hw _ (List.mem_of_getElem? (i := 119) rfl)) (hw _ (List.mem_of_getElem? (i := 120) rfl)) (hw _ (List.mem_of_getElem? (i := 121) rfl)) (hw _ (List.mem_of_getElem? (i := 122) rfl)) (by decide) hh1 (by decide) (W := 0) (by decide) (by decide) (by decide) [(.int (0 : Int32)), (.int (0 : Int32))] [] (by rw [hml]; rfl) (own_max0 l Z a0 hw h0 n0) own_pd12 rfl rfl rfl (hb hby own_d_jdk_43_method_22_code_11) rfl ?_
  intro v2 T2 L2 X2 hQ2
  obtain ⟨rfl, Nq2, hh2⟩ := hQ2
  have N2 := Fr.app N1 Nq2
  show own_Ends p e below _ (T2.setTop (mkF m 14 #[.val (.ref t1), .val (.int (0 : Int32)), .val (.int (0 : Int32)), .val (.int (1 : Int32))] [(.int (0 : Int32))]))
  refine own_istoreN X2 hx #[.val (.ref t1), .val (.int (0 : Int32)), .val (.int (0 : Int32)), .val (.int (1 : Int32))] (hb hby own_d_jdk_43_method_22_code_14) rfl rfl ?_
  refine own_iloadN X2 hx (hb hby own_d_jdk_43_method_22_code_15) rfl rfl ?_
  refine own_aloadN X2 hx (hb hby own_d_jdk_43_method_22_code_16) rfl rfl rfl ?_
  refine own_arraylength X2 hx hZ hh2 V0 (hb hby own_d_jdk_43_method_22_code_17) rfl ?_
  refine own_static X2 hx hZ (y := (⟨"java/lang/Math", "min", "(II)I"⟩ : MethodName)) hown (hw _ (List.mem_of_getElem? (i := 123) rfl)) (hw _ (List.mem_of_getElem? (i := 124) rfl)) (hw _ (List.mem_of_getElem? (i := 121) rfl)) (hw _ (List.mem_of_getElem? (i := 125) rfl)) (by decide) hh2 (by decide) (W := 0) (by decide) (by decide) (by decide) [(.int (1 : Int32)), (.int (1 : Int32))] [] (by rw [hml]; rfl) (own_min11 l Z a0 hw h0 n0) own_pd12 rfl rfl rfl (hb hby own_d_jdk_43_method_22_code_18) rfl ?_
  intro v3 T3 L3 X3 hQ3
  obtain ⟨rfl, Nq3, hh3⟩ := hQ3
  have N3 := Fr.app N2 Nq3
  show own_Ends p e below _ (T3.setTop (mkF m 21 #[.val (.ref t1), .val (.int (0 : Int32)), .val (.int (0 : Int32)), .val (.int (1 : Int32))] [(.int (1 : Int32))]))
  refine own_istoreN X3 hx #[.val (.ref t1), .val (.int (0 : Int32)), .val (.int (0 : Int32)), .val (.int (1 : Int32))] (hb hby own_d_jdk_43_method_22_code_21) rfl rfl ?_
  refine own_iloadN X3 hx (hb hby own_d_jdk_43_method_22_code_22) rfl rfl ?_
  refine own_iloadN X3 hx (hb hby own_d_jdk_43_method_22_code_23) rfl rfl ?_
  refine own_icmpT X3 hx (hb hby own_d_jdk_43_method_22_code_24) (by decide) rfl (by decide) ?_
  refine own_aloadN X3 hx (hb hby own_d_jdk_43_method_22_code_29) rfl rfl rfl ?_
  refine own_iloadN X3 hx (hb hby own_d_jdk_43_method_22_code_30) rfl rfl ?_
  refine own_iloadN X3 hx (hb hby own_d_jdk_43_method_22_code_31) rfl rfl ?_
  refine own_iloadN X3 hx (hb hby own_d_jdk_43_method_22_code_32) rfl rfl ?_
  refine own_static X3 hx hZ (y := (⟨"java/lang/StringLatin1", "indexOfChar", "([BIII)I"⟩ : MethodName)) hown (hw _ (List.mem_of_getElem? (i := 126) rfl)) (hw _ (List.mem_of_getElem? (i := 127) rfl)) (hw _ (List.mem_of_getElem? (i := 24) rfl)) (hw _ (List.mem_of_getElem? (i := 128) rfl)) (by decide) hh3 (by decide) (W := 0) (by decide) (by decide) (by decide) [(.ref t1), (.int (0 : Int32)), (.int (0 : Int32)), (.int (1 : Int32))] [] (by rw [hml]; rfl) (own_ixc0 l Z a0 hw t1 _ b1 h0 n0 V0) own_pd13 rfl rfl rfl (hb hby own_d_jdk_43_method_22_code_33) rfl ?_
  intro v4 T4 L4 X4 hQ4
  obtain ⟨rfl, Nq4, hh4⟩ := hQ4
  have N4 := Fr.app N3 Nq4
  show own_Ends p e below _ (T4.setTop (mkF m 36 #[.val (.ref t1), .val (.int (0 : Int32)), .val (.int (0 : Int32)), .val (.int (1 : Int32))] [(.int (if b1 = (0 : Int32) then (0 : Int32) else (-1 : Int32)))]))
  exact own_retI X4 hx hlocks hret (hb hby own_d_jdk_43_method_22_code_36) (by decide) (by decide) ⟨rfl, N4, hh4⟩
set_option maxRecDepth 65536 in
set_option maxHeartbeats 40000000 in
theorem own_ix2_0 (l : Launch) (Z : State) (a0 : Array Value) (hw : ∀ d ∈ tables_1, d.before a0 Z = true) (s1 : Addr) (b1 zc : Int32) (h0 : Heap) (n0 : Nat) (O0 : Old Z n0 h0) (SC : Sta Z Z.heap "java/lang/String" "COMPACT_STRINGS" "Z" (.int zc)) (hzc : ¬ zc = 0) (S1 : own_S1 Z h0 s1 b1) :
    own_Met l (⟨"java/lang/String", "indexOf", "(II)I"⟩ : MethodName) jdk_42_method_80_code 3 (some .int) ({ frames := 2, cells := 0, slots := 0, locals := 32 } : Room) Z #[(.ref s1), (.int (0 : Int32)), (.int (0 : Int32))] h0 (fun v h L => v = some (.int (if b1 = (0 : Int32) then (0 : Int32) else (-1 : Int32))) ∧ Fr n0 L ∧ h = h0) := by
  refine own_met (plainFor_of_name own_pn_java_lang_String) ?_
  intro p e s m below meth c T0 hx hby hml hZ hown hnm hret hlocks X0 e0 hh0
  have ef : entryFrame m #[(.ref s1), (.int (0 : Int32)), (.int (0 : Int32))] 3 = mkF m 0 #[.val (.ref s1), .val (.int (0 : Int32)), .val (.int (0 : Int32))] [] := by first | (simp [entryFrame, mkF, argsToLocals, Value.category]; done) | rfl
  refine own_entry ef ?_
  have N0 := Fr.nil n0
  obtain ⟨t1, kb1, Es1, Vs1, Cs1, Ks1, CB1⟩ := S1
  refine own_aloadN X0 hx (hb hby own_d_jdk_42_method_80_code_0) rfl rfl rfl ?_
  refine own_virtual X0 hx hZ (y := (⟨"java/lang/String", "isLatin1", "()Z"⟩ : MethodName)) (z := (⟨"java/lang/String", "isLatin1", "()Z"⟩ : MethodName)) hown (hw _ (List.mem_of_getElem? (i := 103) rfl)) (hw _ (List.mem_of_getElem? (i := 104) rfl)) (notFace_of_selects (args := #[]) (mvT hZ (hw _ (List.mem_of_getElem? (i := 106) rfl)))) (hw _ (List.mem_of_getElem? (i := 106) rfl)) (hw _ (List.mem_of_getElem? (i := 105) rfl)) (hw _ (List.mem_of_getElem? (i := 4) rfl)) (hw _ (List.mem_of_getElem? (i := 107) rfl)) (by decide) e0 (by decide) (W := 0) (by decide) (by decide) (by decide) [] [] (by rw [hml]; rfl) Es1 (own_isL l Z a0 hw s1 b1 zc h0 n0 O0 SC hzc ⟨_, _, Es1, Vs1, Cs1, Ks1, CB1⟩) own_pd14 rfl rfl rfl (hb hby own_d_jdk_42_method_80_code_1) rfl ?_
  intro v1 T1 L1 X1 hQ1
  obtain ⟨rfl, Nq1, hh1⟩ := hQ1
  have N1 := Fr.app N0 Nq1
  show own_Ends p e below _ (T1.setTop (mkF m 4 #[.val (.ref s1), .val (.int (0 : Int32)), .val (.int (0 : Int32))] [(.int (1 : Int32))]))
  refine own_ifF X1 hx (hb hby own_d_jdk_42_method_80_code_4) rfl (by decide) ?_
  refine own_aloadN X1 hx (hb hby own_d_jdk_42_method_80_code_7) rfl rfl rfl ?_
  refine own_getF X1 hx hZ hown (host := "") (Or.inl (hw _ (List.mem_of_getElem? (i := 37) rfl))) Via.refl hh1 Vs1 (hb hby own_d_jdk_42_method_80_code_8) rfl ?_
  intro T2 X2 e2
  refine own_iloadN X2 hx (hb hby own_d_jdk_42_method_80_code_11) rfl rfl ?_
  refine own_iloadN X2 hx (hb hby own_d_jdk_42_method_80_code_12) rfl rfl ?_
  refine own_aloadN X2 hx (hb hby own_d_jdk_42_method_80_code_13) rfl rfl rfl ?_
  refine own_virtual X2 hx hZ (y := (⟨"java/lang/String", "length", "()I"⟩ : MethodName)) (z := (⟨"java/lang/String", "length", "()I"⟩ : MethodName)) hown (hw _ (List.mem_of_getElem? (i := 108) rfl)) (hw _ (List.mem_of_getElem? (i := 109) rfl)) (notFace_of_selects (args := #[]) (mvT hZ (hw _ (List.mem_of_getElem? (i := 111) rfl)))) (hw _ (List.mem_of_getElem? (i := 111) rfl)) (hw _ (List.mem_of_getElem? (i := 110) rfl)) (hw _ (List.mem_of_getElem? (i := 4) rfl)) (hw _ (List.mem_of_getElem? (i := 112) rfl)) (by decide) e2 (by decide) (W := 3) (by decide) (by decide) (by decide) [] [(.int (0 : Int32)), (.int (0 : Int32)), (.ref t1)] (by rw [hml]; rfl) Es1 (own_len l Z a0 hw s1 b1 zc h0 n0 O0 SC hzc ⟨_, _, Es1, Vs1, Cs1, Ks1, CB1⟩) own_pd15 rfl rfl rfl (hb hby own_d_jdk_42_method_80_code_14) rfl ?_
  intro v3 T3 L3 X3 hQ3
  obtain ⟨rfl, Nq3, hh3⟩ := hQ3
  have N3 := Fr.app N1 Nq3
  show own_Ends p e below _ (T3.setTop (mkF m 17 #[.val (.ref s1), .val (.int (0 : Int32)), .val (.int (0 : Int32))] [(.int (1 : Int32)), (.int (0 : Int32)), (.int (0 : Int32)), (.ref t1)]))
  refine own_static X3 hx hZ (y := (⟨"java/lang/StringLatin1", "indexOf", "([BIII)I"⟩ : MethodName)) hown (hw _ (List.mem_of_getElem? (i := 113) rfl)) (hw _ (List.mem_of_getElem? (i := 114) rfl)) (hw _ (List.mem_of_getElem? (i := 24) rfl)) (hw _ (List.mem_of_getElem? (i := 115) rfl)) (by decide) hh3 (by decide) (W := 0) (by decide) (by decide) (by decide) [(.ref t1), (.int (0 : Int32)), (.int (0 : Int32)), (.int (1 : Int32))] [] (by rw [hml]; rfl) (own_ixl0 l Z a0 hw t1 _ b1 h0 n0 Ks1) own_pd13 rfl rfl rfl (hb hby own_d_jdk_42_method_80_code_17) rfl ?_
  intro v4 T4 L4 X4 hQ4
  obtain ⟨rfl, Nq4, hh4⟩ := hQ4
  have N4 := Fr.app N3 Nq4
  show own_Ends p e below _ (T4.setTop (mkF m 20 #[.val (.ref s1), .val (.int (0 : Int32)), .val (.int (0 : Int32))] [(.int (if b1 = (0 : Int32) then (0 : Int32) else (-1 : Int32)))]))
  refine own_goto X4 hx (hb hby own_d_jdk_42_method_80_code_20) (by decide) rfl ?_
  exact own_retI X4 hx hlocks hret (hb hby own_d_jdk_42_method_80_code_36) (by decide) (by decide) ⟨rfl, N4, hh4⟩
set_option maxRecDepth 65536 in
set_option maxHeartbeats 40000000 in
theorem own_ix1_0 (l : Launch) (Z : State) (a0 : Array Value) (hw : ∀ d ∈ tables_1, d.before a0 Z = true) (s1 : Addr) (b1 zc : Int32) (h0 : Heap) (n0 : Nat) (O0 : Old Z n0 h0) (SC : Sta Z Z.heap "java/lang/String" "COMPACT_STRINGS" "Z" (.int zc)) (hzc : ¬ zc = 0) (S1 : own_S1 Z h0 s1 b1) :
    own_Met l (⟨"java/lang/String", "indexOf", "(I)I"⟩ : MethodName) jdk_42_method_79_code 2 (some .int) ({ frames := 3, cells := 0, slots := 0, locals := 46 } : Room) Z #[(.ref s1), (.int (0 : Int32))] h0 (fun v h L => v = some (.int (if b1 = (0 : Int32) then (0 : Int32) else (-1 : Int32))) ∧ Fr n0 L ∧ h = h0) := by
  refine own_met (plainFor_of_name own_pn_java_lang_String) ?_
  intro p e s m below meth c T0 hx hby hml hZ hown hnm hret hlocks X0 e0 hh0
  have ef : entryFrame m #[(.ref s1), (.int (0 : Int32))] 2 = mkF m 0 #[.val (.ref s1), .val (.int (0 : Int32))] [] := by first | (simp [entryFrame, mkF, argsToLocals, Value.category]; done) | rfl
  refine own_entry ef ?_
  have N0 := Fr.nil n0
  obtain ⟨t1, kb1, Es1, Vs1, Cs1, Ks1, CB1⟩ := S1
  refine own_aloadN X0 hx (hb hby own_d_jdk_42_method_79_code_0) rfl rfl rfl ?_
  refine own_iloadN X0 hx (hb hby own_d_jdk_42_method_79_code_1) rfl rfl ?_
  refine own_iconst X0 hx (0 : Int32) (hb hby own_d_jdk_42_method_79_code_2) (by decide) rfl ?_
  refine own_virtual X0 hx hZ (y := (⟨"java/lang/String", "indexOf", "(II)I"⟩ : MethodName)) (z := (⟨"java/lang/String", "indexOf", "(II)I"⟩ : MethodName)) hown (hw _ (List.mem_of_getElem? (i := 98) rfl)) (hw _ (List.mem_of_getElem? (i := 99) rfl)) (notFace_of_selects (args := #[]) (mvT hZ (hw _ (List.mem_of_getElem? (i := 101) rfl)))) (hw _ (List.mem_of_getElem? (i := 101) rfl)) (hw _ (List.mem_of_getElem? (i := 100) rfl)) (hw _ (List.mem_of_getElem? (i := 4) rfl)) (hw _ (List.mem_of_getElem? (i := 102) rfl)) (by decide) e0 (by decide) (W := 0) (by decide) (by decide) (by decide) [(.int (0 : Int32)), (.int (0 : Int32))] [] (by rw [hml]; rfl) Es1 (own_ix2_0 l Z a0 hw s1 b1 zc h0 n0 O0 SC hzc ⟨_, _, Es1, Vs1, Cs1, Ks1, CB1⟩) own_pd12 rfl rfl rfl (hb hby own_d_jdk_42_method_79_code_3) rfl ?_
  intro v1 T1 L1 X1 hQ1
  obtain ⟨rfl, Nq1, hh1⟩ := hQ1
  have N1 := Fr.app N0 Nq1
  show own_Ends p e below _ (T1.setTop (mkF m 6 #[.val (.ref s1), .val (.int (0 : Int32))] [(.int (if b1 = (0 : Int32) then (0 : Int32) else (-1 : Int32)))]))
  exact own_retI X1 hx hlocks hret (hb hby own_d_jdk_42_method_79_code_6) (by decide) (by decide) ⟨rfl, N1, hh1⟩
set_option maxRecDepth 65536 in
theorem own_hwS {a0 : Array Value} {Z : State} (hw : ∀ d ∈ tables_1, d.before a0 Z = true) : ∀ d ∈ Bundle.stringAtoms, d.before a0 Z = true := fun d hd => hw d ((by decide +kernel : ∀ d ∈ Bundle.stringAtoms, d ∈ tables_1) d hd)
def own_okN (b : Int32) : Int32 := if b = (46 : Int32) then 0 else if b = (47 : Int32) then 0 else if b = (0 : Int32) then 0 else 1
set_option maxRecDepth 65536 in
set_option maxHeartbeats 40000000 in
theorem own_isR1 (l : Launch) (Z : State) (a0 : Array Value) (hw : ∀ d ∈ tables_1, d.before a0 Z = true) (s1 : Addr) (b1 zc : Int32) (h0 : Heap) (n0 : Nat) (hEL : EW Z a0 consts_1) (O0 : Old Z n0 h0) (SC : Sta Z Z.heap "java/lang/String" "COMPACT_STRINGS" "Z" (.int zc)) (hzc : ¬ zc = 0) (S1 : own_S1 Z h0 s1 b1) :
    own_MetH l (⟨"com/example/lockstitch/lockstitch/engine/tree/ResourcePath", "isResourceName", "(Ljava/lang/String;I)Z"⟩ : MethodName) prog_24_method_8_code 4 (some .boolean) ({ frames := 4, cells := 4, slots := 20, locals := 59 } : Room) Z consts_1 #[(.ref s1), (.int (1 : Int32))] h0 (fun v h L => v = some (.int (own_okN b1)) ∧ Fr n0 L ∧ Keep h0 h []) := by
  refine own_metH (plainFor_of_name own_pn_com_example_lockstitch_lockstitch_engine_tree_ResourcePath) ?_
  intro p e s m below meth c T0 hx hby hml hZ hown hnm hret hlocks X0 e0 hh0 HH0
  have ef : entryFrame m #[(.ref s1), (.int (1 : Int32))] 4 = mkF m 0 #[.val (.ref s1), .val (.int (1 : Int32)), .unset, .unset] [] := by first | (simp [entryFrame, mkF, argsToLocals, Value.category]; done) | rfl
  refine own_entry ef ?_
  have N0 := Fr.nil n0
  have hwS := own_hwS hw
  have K0 := Keep.refl h0 []
  obtain ⟨t1, kb1, Es1, Vs1, Cs1, Ks1, CB1⟩ := S1
  refine own_aloadN X0 hx (hb hby own_d_prog_24_method_8_code_0) rfl rfl rfl ?_
  refine own_ldcS X0 hx hZ hown (hw _ (List.mem_of_getElem? (i := 83) rfl)) hwS e0 HH0 hEL (List.mem_of_getElem? (i := 0) rfl) (vs := ([.int (46 : Int32)] : List Value)) (z := (1 : Int32)) (by decide +kernel) (by decide) (by decide) (hb hby own_d_prog_24_method_8_code_1) 4 (by decide) (by decide) (by decide) (by decide) rfl ?_
  intro ls1 T1 h1 lt1 k1 X1 e1 E1 hZ hown HH1 A1 Ex1 Fc1 Fv1 V1 ne1
  have K2 := K0.ext E1
  have f3 := (O0.ext E1)
  have f4 := (Es1.ext E1)
  have f5 := (Vs1.ext E1)
  have f6 := (Cs1.ext E1)
  have f7 := (Ks1.ext E1)
  refine own_virtual X1 hx hZ (y := (⟨"java/lang/String", "equals", "(Ljava/lang/Object;)Z"⟩ : MethodName)) (z := (⟨"java/lang/String", "equals", "(Ljava/lang/Object;)Z"⟩ : MethodName)) hown (hw _ (List.mem_of_getElem? (i := 84) rfl)) (hw _ (List.mem_of_getElem? (i := 85) rfl)) (notFace_of_selects (args := #[]) (mvT hZ (hw _ (List.mem_of_getElem? (i := 87) rfl)))) (hw _ (List.mem_of_getElem? (i := 87) rfl)) (hw _ (List.mem_of_getElem? (i := 86) rfl)) (hw _ (List.mem_of_getElem? (i := 4) rfl)) (hw _ (List.mem_of_getElem? (i := 88) rfl)) (by decide) e1 (by decide) (W := 0) (by decide) (by decide) (by decide) [(.ref ls1)] [] (by rw [hml]; rfl) f4 (own_eqs1 l Z a0 hw s1 ls1 lt1 _ b1 (46 : Int32) zc h1 n0 f3 SC hzc ⟨_, _, f4, f5, f6, f7, CB1⟩ Ex1 Fv1 Fc1 V1) own_pd16 rfl rfl rfl (hb hby own_d_prog_24_method_8_code_3) rfl ?_
  intro v8 T8 L8 X8 hQ8
  obtain ⟨rfl, Nq8, hh8⟩ := hQ8
  have N8 := Fr.app N0 Nq8
  show own_Ends p e below _ (T8.setTop (mkF m 6 #[.val (.ref s1), .val (.int (1 : Int32)), .unset, .unset] [(.int (own_eqv b1 (46 : Int32)))]))
  refine own_if_ne X8 hx (hb hby own_d_prog_24_method_8_code_6) (by decide) rfl rfl (fun hc6_9 => ?_) (fun hc6_9 => ?_)
  · refine own_iconst X8 hx (1 : Int32) (hb hby own_d_prog_24_method_8_code_18) (by decide) rfl ?_
    refine own_goto X8 hx (hb hby own_d_prog_24_method_8_code_19) (by decide) rfl ?_
    refine own_istoreN X8 hx #[.val (.ref s1), .val (.int (1 : Int32)), .val (.int (1 : Int32)), .unset] (hb hby own_d_prog_24_method_8_code_23) rfl rfl ?_
    refine own_aloadN X8 hx (hb hby own_d_prog_24_method_8_code_24) rfl rfl rfl ?_
    refine own_bipush X8 hx (47 : Int32) (hb hby own_d_prog_24_method_8_code_25) (by decide) rfl ?_
    refine own_virtual X8 hx hZ (y := (⟨"java/lang/String", "indexOf", "(I)I"⟩ : MethodName)) (z := (⟨"java/lang/String", "indexOf", "(I)I"⟩ : MethodName)) hown (hw _ (List.mem_of_getElem? (i := 93) rfl)) (hw _ (List.mem_of_getElem? (i := 94) rfl)) (notFace_of_selects (args := #[]) (mvT hZ (hw _ (List.mem_of_getElem? (i := 96) rfl)))) (hw _ (List.mem_of_getElem? (i := 96) rfl)) (hw _ (List.mem_of_getElem? (i := 95) rfl)) (hw _ (List.mem_of_getElem? (i := 4) rfl)) (hw _ (List.mem_of_getElem? (i := 97) rfl)) (by decide) hh8 (by decide) (W := 0) (by decide) (by decide) (by decide) [(.int (47 : Int32))] [] (by rw [hml]; rfl) f4 (own_ix1_47 l Z a0 hw s1 b1 zc h1 n0 f3 SC hzc ⟨_, _, f4, f5, f6, f7, CB1⟩) own_pd5 rfl rfl rfl (hb hby own_d_prog_24_method_8_code_27) rfl ?_
    intro v10 T10 L10 X10 hQ10
    obtain ⟨rfl, Nq10, hh10⟩ := hQ10
    have N10 := Fr.app N8 Nq10
    show own_Ends p e below _ (T10.setTop (mkF m 30 #[.val (.ref s1), .val (.int (1 : Int32)), .val (.int (1 : Int32)), .unset] [(.int (if b1 = (47 : Int32) then (0 : Int32) else (-1 : Int32)))]))
    refine own_if_ge X10 hx (hb hby own_d_prog_24_method_8_code_30) (by decide) rfl rfl (fun hc30_11 => ?_) (fun hc30_11 => ?_)
    · refine own_iconst X10 hx (1 : Int32) (hb hby own_d_prog_24_method_8_code_41) (by decide) rfl ?_
      refine own_goto X10 hx (hb hby own_d_prog_24_method_8_code_42) (by decide) rfl ?_
      refine own_istoreN X10 hx #[.val (.ref s1), .val (.int (1 : Int32)), .val (.int (1 : Int32)), .val (.int (1 : Int32))] (hb hby own_d_prog_24_method_8_code_46) rfl rfl ?_
      refine own_iloadN X10 hx (hb hby own_d_prog_24_method_8_code_47) rfl rfl ?_
      refine own_ifT X10 hx (hb hby own_d_prog_24_method_8_code_48) (by decide) rfl (by decide) ?_
      refine own_iconst X10 hx (0 : Int32) (hb hby own_d_prog_24_method_8_code_70) (by decide) rfl ?_
      exact own_retNH X10 hx hZ hh10 HH1 hEL hlocks hret (by simp) (hb hby own_d_prog_24_method_8_code_71) (by decide) (by decide) (by decide) ⟨congrArg (fun q => some (Value.int q)) (by by_cases q1 : b1 = (46 : Int32) <;> by_cases q2 : b1 = (47 : Int32) <;> by_cases q3 : b1 = (0 : Int32) <;> simp_all [own_okN, own_eqv]), N10, by rw [hh10]; exact K2⟩
    · refine own_aloadN X10 hx (hb hby own_d_prog_24_method_8_code_33) rfl rfl rfl ?_
      refine own_iconst X10 hx (0 : Int32) (hb hby own_d_prog_24_method_8_code_34) (by decide) rfl ?_
      refine own_virtual X10 hx hZ (y := (⟨"java/lang/String", "indexOf", "(I)I"⟩ : MethodName)) (z := (⟨"java/lang/String", "indexOf", "(I)I"⟩ : MethodName)) hown (hw _ (List.mem_of_getElem? (i := 93) rfl)) (hw _ (List.mem_of_getElem? (i := 94) rfl)) (notFace_of_selects (args := #[]) (mvT hZ (hw _ (List.mem_of_getElem? (i := 96) rfl)))) (hw _ (List.mem_of_getElem? (i := 96) rfl)) (hw _ (List.mem_of_getElem? (i := 95) rfl)) (hw _ (List.mem_of_getElem? (i := 4) rfl)) (hw _ (List.mem_of_getElem? (i := 97) rfl)) (by decide) hh10 (by decide) (W := 0) (by decide) (by decide) (by decide) [(.int (0 : Int32))] [] (by rw [hml]; rfl) f4 (own_ix1_0 l Z a0 hw s1 b1 zc h1 n0 f3 SC hzc ⟨_, _, f4, f5, f6, f7, CB1⟩) own_pd5 rfl rfl rfl (hb hby own_d_prog_24_method_8_code_35) rfl ?_
      intro v12 T12 L12 X12 hQ12
      obtain ⟨rfl, Nq12, hh12⟩ := hQ12
      have N12 := Fr.app N10 Nq12
      show own_Ends p e below _ (T12.setTop (mkF m 38 #[.val (.ref s1), .val (.int (1 : Int32)), .val (.int (1 : Int32)), .unset] [(.int (if b1 = (0 : Int32) then (0 : Int32) else (-1 : Int32)))]))
      refine own_if_lt X12 hx (hb hby own_d_prog_24_method_8_code_38) (by decide) rfl rfl (fun hc38_13 => ?_) (fun hc38_13 => ?_)
      · refine own_iconst X12 hx (0 : Int32) (hb hby own_d_prog_24_method_8_code_45) (by decide) rfl ?_
        refine own_istoreN X12 hx #[.val (.ref s1), .val (.int (1 : Int32)), .val (.int (1 : Int32)), .val (.int (0 : Int32))] (hb hby own_d_prog_24_method_8_code_46) rfl rfl ?_
        refine own_iloadN X12 hx (hb hby own_d_prog_24_method_8_code_47) rfl rfl ?_
        refine own_ifT X12 hx (hb hby own_d_prog_24_method_8_code_48) (by decide) rfl (by decide) ?_
        refine own_iconst X12 hx (0 : Int32) (hb hby own_d_prog_24_method_8_code_70) (by decide) rfl ?_
        exact own_retNH X12 hx hZ hh12 HH1 hEL hlocks hret (by simp) (hb hby own_d_prog_24_method_8_code_71) (by decide) (by decide) (by decide) ⟨congrArg (fun q => some (Value.int q)) (by by_cases q1 : b1 = (46 : Int32) <;> by_cases q2 : b1 = (47 : Int32) <;> by_cases q3 : b1 = (0 : Int32) <;> simp_all [own_okN, own_eqv]), N12, by rw [hh12]; exact K2⟩
      · refine own_iconst X12 hx (1 : Int32) (hb hby own_d_prog_24_method_8_code_41) (by decide) rfl ?_
        refine own_goto X12 hx (hb hby own_d_prog_24_method_8_code_42) (by decide) rfl ?_
        refine own_istoreN X12 hx #[.val (.ref s1), .val (.int (1 : Int32)), .val (.int (1 : Int32)), .val (.int (1 : Int32))] (hb hby own_d_prog_24_method_8_code_46) rfl rfl ?_
        refine own_iloadN X12 hx (hb hby own_d_prog_24_method_8_code_47) rfl rfl ?_
        refine own_ifT X12 hx (hb hby own_d_prog_24_method_8_code_48) (by decide) rfl (by decide) ?_
        refine own_iconst X12 hx (0 : Int32) (hb hby own_d_prog_24_method_8_code_70) (by decide) rfl ?_
        exact own_retNH X12 hx hZ hh12 HH1 hEL hlocks hret (by simp) (hb hby own_d_prog_24_method_8_code_71) (by decide) (by decide) (by decide) ⟨congrArg (fun q => some (Value.int q)) (by by_cases q1 : b1 = (46 : Int32) <;> by_cases q2 : b1 = (47 : Int32) <;> by_cases q3 : b1 = (0 : Int32) <;> simp_all [own_okN, own_eqv]), N12, by rw [hh12]; exact K2⟩
  · refine own_aloadN X8 hx (hb hby own_d_prog_24_method_8_code_9) rfl rfl rfl ?_
    refine own_ldcS X8 hx hZ hown (hw _ (List.mem_of_getElem? (i := 92) rfl)) hwS hh8 HH1 hEL (List.mem_of_getElem? (i := 1) rfl) (vs := ([.int (46 : Int32), .int (46 : Int32)] : List Value)) (z := (2 : Int32)) (by decide +kernel) (by decide) (by decide) (hb hby own_d_prog_24_method_8_code_10) 8 (by decide) (by decide) (by decide) (by decide) rfl ?_
    intro ls14 T14 h14 lt14 k14 X14 e14 E14 hZ hown HH14 A14 Ex14 Fc14 Fv14 V14 ne14
    have K15 := K2.ext E14
    have f16 := (f3.ext E14)
    have f17 := (f4.ext E14)
    have f18 := (f5.ext E14)
    have f19 := (f6.ext E14)
    have f20 := (f7.ext E14)
    refine own_virtual X14 hx hZ (y := (⟨"java/lang/String", "equals", "(Ljava/lang/Object;)Z"⟩ : MethodName)) (z := (⟨"java/lang/String", "equals", "(Ljava/lang/Object;)Z"⟩ : MethodName)) hown (hw _ (List.mem_of_getElem? (i := 84) rfl)) (hw _ (List.mem_of_getElem? (i := 85) rfl)) (notFace_of_selects (args := #[]) (mvT hZ (hw _ (List.mem_of_getElem? (i := 87) rfl)))) (hw _ (List.mem_of_getElem? (i := 87) rfl)) (hw _ (List.mem_of_getElem? (i := 86) rfl)) (hw _ (List.mem_of_getElem? (i := 4) rfl)) (hw _ (List.mem_of_getElem? (i := 88) rfl)) (by decide) e14 (by decide) (W := 0) (by decide) (by decide) (by decide) [(.ref ls14)] [] (by rw [hml]; rfl) f17 (own_eqs2 l Z a0 hw s1 ls14 lt14 _ b1  zc h14 n0 f16 SC hzc ⟨_, _, f17, f18, f19, f20, CB1⟩ Ex14 Fv14 Fc14 V14) own_pd16 rfl rfl rfl (hb hby own_d_prog_24_method_8_code_12) rfl ?_
    intro v21 T21 L21 X21 hQ21
    obtain ⟨rfl, Nq21, hh21⟩ := hQ21
    have N21 := Fr.app N8 Nq21
    show own_Ends p e below _ (T21.setTop (mkF m 15 #[.val (.ref s1), .val (.int (1 : Int32)), .unset, .unset] [(.int (0 : Int32))]))
    refine own_ifT X21 hx (hb hby own_d_prog_24_method_8_code_15) (by decide) rfl (by decide) ?_
    refine own_iconst X21 hx (0 : Int32) (hb hby own_d_prog_24_method_8_code_22) (by decide) rfl ?_
    refine own_istoreN X21 hx #[.val (.ref s1), .val (.int (1 : Int32)), .val (.int (0 : Int32)), .unset] (hb hby own_d_prog_24_method_8_code_23) rfl rfl ?_
    refine own_aloadN X21 hx (hb hby own_d_prog_24_method_8_code_24) rfl rfl rfl ?_
    refine own_bipush X21 hx (47 : Int32) (hb hby own_d_prog_24_method_8_code_25) (by decide) rfl ?_
    refine own_virtual X21 hx hZ (y := (⟨"java/lang/String", "indexOf", "(I)I"⟩ : MethodName)) (z := (⟨"java/lang/String", "indexOf", "(I)I"⟩ : MethodName)) hown (hw _ (List.mem_of_getElem? (i := 93) rfl)) (hw _ (List.mem_of_getElem? (i := 94) rfl)) (notFace_of_selects (args := #[]) (mvT hZ (hw _ (List.mem_of_getElem? (i := 96) rfl)))) (hw _ (List.mem_of_getElem? (i := 96) rfl)) (hw _ (List.mem_of_getElem? (i := 95) rfl)) (hw _ (List.mem_of_getElem? (i := 4) rfl)) (hw _ (List.mem_of_getElem? (i := 97) rfl)) (by decide) hh21 (by decide) (W := 0) (by decide) (by decide) (by decide) [(.int (47 : Int32))] [] (by rw [hml]; rfl) f17 (own_ix1_47 l Z a0 hw s1 b1 zc h14 n0 f16 SC hzc ⟨_, _, f17, f18, f19, f20, CB1⟩) own_pd5 rfl rfl rfl (hb hby own_d_prog_24_method_8_code_27) rfl ?_
    intro v22 T22 L22 X22 hQ22
    obtain ⟨rfl, Nq22, hh22⟩ := hQ22
    have N22 := Fr.app N21 Nq22
    show own_Ends p e below _ (T22.setTop (mkF m 30 #[.val (.ref s1), .val (.int (1 : Int32)), .val (.int (0 : Int32)), .unset] [(.int (if b1 = (47 : Int32) then (0 : Int32) else (-1 : Int32)))]))
    refine own_if_ge X22 hx (hb hby own_d_prog_24_method_8_code_30) (by decide) rfl rfl (fun hc30_23 => ?_) (fun hc30_23 => ?_)
    · refine own_iconst X22 hx (1 : Int32) (hb hby own_d_prog_24_method_8_code_41) (by decide) rfl ?_
      refine own_goto X22 hx (hb hby own_d_prog_24_method_8_code_42) (by decide) rfl ?_
      refine own_istoreN X22 hx #[.val (.ref s1), .val (.int (1 : Int32)), .val (.int (0 : Int32)), .val (.int (1 : Int32))] (hb hby own_d_prog_24_method_8_code_46) rfl rfl ?_
      refine own_iloadN X22 hx (hb hby own_d_prog_24_method_8_code_47) rfl rfl ?_
      refine own_ifF X22 hx (hb hby own_d_prog_24_method_8_code_48) rfl (by decide) ?_
      refine own_iloadN X22 hx (hb hby own_d_prog_24_method_8_code_51) rfl rfl ?_
      refine own_ifT X22 hx (hb hby own_d_prog_24_method_8_code_52) (by decide) rfl (by decide) ?_
      refine own_iconst X22 hx (0 : Int32) (hb hby own_d_prog_24_method_8_code_70) (by decide) rfl ?_
      exact own_retNH X22 hx hZ hh22 HH14 hEL hlocks hret (by simp) (hb hby own_d_prog_24_method_8_code_71) (by decide) (by decide) (by decide) ⟨congrArg (fun q => some (Value.int q)) (by by_cases q1 : b1 = (46 : Int32) <;> by_cases q2 : b1 = (47 : Int32) <;> by_cases q3 : b1 = (0 : Int32) <;> simp_all [own_okN, own_eqv]), N22, by rw [hh22]; exact K15⟩
    · refine own_aloadN X22 hx (hb hby own_d_prog_24_method_8_code_33) rfl rfl rfl ?_
      refine own_iconst X22 hx (0 : Int32) (hb hby own_d_prog_24_method_8_code_34) (by decide) rfl ?_
      refine own_virtual X22 hx hZ (y := (⟨"java/lang/String", "indexOf", "(I)I"⟩ : MethodName)) (z := (⟨"java/lang/String", "indexOf", "(I)I"⟩ : MethodName)) hown (hw _ (List.mem_of_getElem? (i := 93) rfl)) (hw _ (List.mem_of_getElem? (i := 94) rfl)) (notFace_of_selects (args := #[]) (mvT hZ (hw _ (List.mem_of_getElem? (i := 96) rfl)))) (hw _ (List.mem_of_getElem? (i := 96) rfl)) (hw _ (List.mem_of_getElem? (i := 95) rfl)) (hw _ (List.mem_of_getElem? (i := 4) rfl)) (hw _ (List.mem_of_getElem? (i := 97) rfl)) (by decide) hh22 (by decide) (W := 0) (by decide) (by decide) (by decide) [(.int (0 : Int32))] [] (by rw [hml]; rfl) f17 (own_ix1_0 l Z a0 hw s1 b1 zc h14 n0 f16 SC hzc ⟨_, _, f17, f18, f19, f20, CB1⟩) own_pd5 rfl rfl rfl (hb hby own_d_prog_24_method_8_code_35) rfl ?_
      intro v24 T24 L24 X24 hQ24
      obtain ⟨rfl, Nq24, hh24⟩ := hQ24
      have N24 := Fr.app N22 Nq24
      show own_Ends p e below _ (T24.setTop (mkF m 38 #[.val (.ref s1), .val (.int (1 : Int32)), .val (.int (0 : Int32)), .unset] [(.int (if b1 = (0 : Int32) then (0 : Int32) else (-1 : Int32)))]))
      refine own_if_lt X24 hx (hb hby own_d_prog_24_method_8_code_38) (by decide) rfl rfl (fun hc38_25 => ?_) (fun hc38_25 => ?_)
      · refine own_iconst X24 hx (0 : Int32) (hb hby own_d_prog_24_method_8_code_45) (by decide) rfl ?_
        refine own_istoreN X24 hx #[.val (.ref s1), .val (.int (1 : Int32)), .val (.int (0 : Int32)), .val (.int (0 : Int32))] (hb hby own_d_prog_24_method_8_code_46) rfl rfl ?_
        refine own_iloadN X24 hx (hb hby own_d_prog_24_method_8_code_47) rfl rfl ?_
        refine own_ifF X24 hx (hb hby own_d_prog_24_method_8_code_48) rfl (by decide) ?_
        refine own_iloadN X24 hx (hb hby own_d_prog_24_method_8_code_51) rfl rfl ?_
        refine own_ifF X24 hx (hb hby own_d_prog_24_method_8_code_52) rfl (by decide) ?_
        refine own_iloadN X24 hx (hb hby own_d_prog_24_method_8_code_55) rfl rfl ?_
        refine own_ifF X24 hx (hb hby own_d_prog_24_method_8_code_56) rfl (by decide) ?_
        refine own_iloadN X24 hx (hb hby own_d_prog_24_method_8_code_59) rfl rfl ?_
        refine own_sipush X24 hx (255 : Int32) (hb hby own_d_prog_24_method_8_code_60) (by decide) rfl ?_
        refine own_icmpF X24 hx (hb hby own_d_prog_24_method_8_code_63) rfl (by decide) ?_
        refine own_iconst X24 hx (1 : Int32) (hb hby own_d_prog_24_method_8_code_66) (by decide) rfl ?_
        refine own_goto X24 hx (hb hby own_d_prog_24_method_8_code_67) (by decide) rfl ?_
        exact own_retNH X24 hx hZ hh24 HH14 hEL hlocks hret (by simp) (hb hby own_d_prog_24_method_8_code_71) (by decide) (by decide) (by decide) ⟨congrArg (fun q => some (Value.int q)) (by by_cases q1 : b1 = (46 : Int32) <;> by_cases q2 : b1 = (47 : Int32) <;> by_cases q3 : b1 = (0 : Int32) <;> simp_all [own_okN, own_eqv]), N24, by rw [hh24]; exact K15⟩
      · refine own_iconst X24 hx (1 : Int32) (hb hby own_d_prog_24_method_8_code_41) (by decide) rfl ?_
        refine own_goto X24 hx (hb hby own_d_prog_24_method_8_code_42) (by decide) rfl ?_
        refine own_istoreN X24 hx #[.val (.ref s1), .val (.int (1 : Int32)), .val (.int (0 : Int32)), .val (.int (1 : Int32))] (hb hby own_d_prog_24_method_8_code_46) rfl rfl ?_
        refine own_iloadN X24 hx (hb hby own_d_prog_24_method_8_code_47) rfl rfl ?_
        refine own_ifF X24 hx (hb hby own_d_prog_24_method_8_code_48) rfl (by decide) ?_
        refine own_iloadN X24 hx (hb hby own_d_prog_24_method_8_code_51) rfl rfl ?_
        refine own_ifT X24 hx (hb hby own_d_prog_24_method_8_code_52) (by decide) rfl (by decide) ?_
        refine own_iconst X24 hx (0 : Int32) (hb hby own_d_prog_24_method_8_code_70) (by decide) rfl ?_
        exact own_retNH X24 hx hZ hh24 HH14 hEL hlocks hret (by simp) (hb hby own_d_prog_24_method_8_code_71) (by decide) (by decide) (by decide) ⟨congrArg (fun q => some (Value.int q)) (by by_cases q1 : b1 = (46 : Int32) <;> by_cases q2 : b1 = (47 : Int32) <;> by_cases q3 : b1 = (0 : Int32) <;> simp_all [own_okN, own_eqv]), N24, by rw [hh24]; exact K15⟩
set_option maxRecDepth 65536 in
set_option maxHeartbeats 40000000 in
theorem own_isR2 (l : Launch) (Z : State) (a0 : Array Value) (hw : ∀ d ∈ tables_1, d.before a0 Z = true) (s1 : Addr) (b1 zc : Int32) (h0 : Heap) (n0 : Nat) (hEL : EW Z a0 consts_1) (O0 : Old Z n0 h0) (SC : Sta Z Z.heap "java/lang/String" "COMPACT_STRINGS" "Z" (.int zc)) (hzc : ¬ zc = 0) (S1 : own_S1 Z h0 s1 b1) :
    own_MetH l (⟨"com/example/lockstitch/lockstitch/engine/tree/ResourcePath", "isResourceName", "(Ljava/lang/String;I)Z"⟩ : MethodName) prog_24_method_8_code 4 (some .boolean) ({ frames := 4, cells := 4, slots := 20, locals := 59 } : Room) Z consts_1 #[(.ref s1), (.int (2 : Int32))] h0 (fun v h L => v = some (.int (own_okN b1)) ∧ Fr n0 L ∧ Keep h0 h []) := by
  refine own_metH (plainFor_of_name own_pn_com_example_lockstitch_lockstitch_engine_tree_ResourcePath) ?_
  intro p e s m below meth c T0 hx hby hml hZ hown hnm hret hlocks X0 e0 hh0 HH0
  have ef : entryFrame m #[(.ref s1), (.int (2 : Int32))] 4 = mkF m 0 #[.val (.ref s1), .val (.int (2 : Int32)), .unset, .unset] [] := by first | (simp [entryFrame, mkF, argsToLocals, Value.category]; done) | rfl
  refine own_entry ef ?_
  have N0 := Fr.nil n0
  have hwS := own_hwS hw
  have K0 := Keep.refl h0 []
  obtain ⟨t1, kb1, Es1, Vs1, Cs1, Ks1, CB1⟩ := S1
  refine own_aloadN X0 hx (hb hby own_d_prog_24_method_8_code_0) rfl rfl rfl ?_
  refine own_ldcS X0 hx hZ hown (hw _ (List.mem_of_getElem? (i := 83) rfl)) hwS e0 HH0 hEL (List.mem_of_getElem? (i := 0) rfl) (vs := ([.int (46 : Int32)] : List Value)) (z := (1 : Int32)) (by decide +kernel) (by decide) (by decide) (hb hby own_d_prog_24_method_8_code_1) 4 (by decide) (by decide) (by decide) (by decide) rfl ?_
  intro ls1 T1 h1 lt1 k1 X1 e1 E1 hZ hown HH1 A1 Ex1 Fc1 Fv1 V1 ne1
  have K2 := K0.ext E1
  have f3 := (O0.ext E1)
  have f4 := (Es1.ext E1)
  have f5 := (Vs1.ext E1)
  have f6 := (Cs1.ext E1)
  have f7 := (Ks1.ext E1)
  refine own_virtual X1 hx hZ (y := (⟨"java/lang/String", "equals", "(Ljava/lang/Object;)Z"⟩ : MethodName)) (z := (⟨"java/lang/String", "equals", "(Ljava/lang/Object;)Z"⟩ : MethodName)) hown (hw _ (List.mem_of_getElem? (i := 84) rfl)) (hw _ (List.mem_of_getElem? (i := 85) rfl)) (notFace_of_selects (args := #[]) (mvT hZ (hw _ (List.mem_of_getElem? (i := 87) rfl)))) (hw _ (List.mem_of_getElem? (i := 87) rfl)) (hw _ (List.mem_of_getElem? (i := 86) rfl)) (hw _ (List.mem_of_getElem? (i := 4) rfl)) (hw _ (List.mem_of_getElem? (i := 88) rfl)) (by decide) e1 (by decide) (W := 0) (by decide) (by decide) (by decide) [(.ref ls1)] [] (by rw [hml]; rfl) f4 (own_eqs1 l Z a0 hw s1 ls1 lt1 _ b1 (46 : Int32) zc h1 n0 f3 SC hzc ⟨_, _, f4, f5, f6, f7, CB1⟩ Ex1 Fv1 Fc1 V1) own_pd16 rfl rfl rfl (hb hby own_d_prog_24_method_8_code_3) rfl ?_
  intro v8 T8 L8 X8 hQ8
  obtain ⟨rfl, Nq8, hh8⟩ := hQ8
  have N8 := Fr.app N0 Nq8
  show own_Ends p e below _ (T8.setTop (mkF m 6 #[.val (.ref s1), .val (.int (2 : Int32)), .unset, .unset] [(.int (own_eqv b1 (46 : Int32)))]))
  refine own_if_ne X8 hx (hb hby own_d_prog_24_method_8_code_6) (by decide) rfl rfl (fun hc6_9 => ?_) (fun hc6_9 => ?_)
  · refine own_iconst X8 hx (1 : Int32) (hb hby own_d_prog_24_method_8_code_18) (by decide) rfl ?_
    refine own_goto X8 hx (hb hby own_d_prog_24_method_8_code_19) (by decide) rfl ?_
    refine own_istoreN X8 hx #[.val (.ref s1), .val (.int (2 : Int32)), .val (.int (1 : Int32)), .unset] (hb hby own_d_prog_24_method_8_code_23) rfl rfl ?_
    refine own_aloadN X8 hx (hb hby own_d_prog_24_method_8_code_24) rfl rfl rfl ?_
    refine own_bipush X8 hx (47 : Int32) (hb hby own_d_prog_24_method_8_code_25) (by decide) rfl ?_
    refine own_virtual X8 hx hZ (y := (⟨"java/lang/String", "indexOf", "(I)I"⟩ : MethodName)) (z := (⟨"java/lang/String", "indexOf", "(I)I"⟩ : MethodName)) hown (hw _ (List.mem_of_getElem? (i := 93) rfl)) (hw _ (List.mem_of_getElem? (i := 94) rfl)) (notFace_of_selects (args := #[]) (mvT hZ (hw _ (List.mem_of_getElem? (i := 96) rfl)))) (hw _ (List.mem_of_getElem? (i := 96) rfl)) (hw _ (List.mem_of_getElem? (i := 95) rfl)) (hw _ (List.mem_of_getElem? (i := 4) rfl)) (hw _ (List.mem_of_getElem? (i := 97) rfl)) (by decide) hh8 (by decide) (W := 0) (by decide) (by decide) (by decide) [(.int (47 : Int32))] [] (by rw [hml]; rfl) f4 (own_ix1_47 l Z a0 hw s1 b1 zc h1 n0 f3 SC hzc ⟨_, _, f4, f5, f6, f7, CB1⟩) own_pd5 rfl rfl rfl (hb hby own_d_prog_24_method_8_code_27) rfl ?_
    intro v10 T10 L10 X10 hQ10
    obtain ⟨rfl, Nq10, hh10⟩ := hQ10
    have N10 := Fr.app N8 Nq10
    show own_Ends p e below _ (T10.setTop (mkF m 30 #[.val (.ref s1), .val (.int (2 : Int32)), .val (.int (1 : Int32)), .unset] [(.int (if b1 = (47 : Int32) then (0 : Int32) else (-1 : Int32)))]))
    refine own_if_ge X10 hx (hb hby own_d_prog_24_method_8_code_30) (by decide) rfl rfl (fun hc30_11 => ?_) (fun hc30_11 => ?_)
    · refine own_iconst X10 hx (1 : Int32) (hb hby own_d_prog_24_method_8_code_41) (by decide) rfl ?_
      refine own_goto X10 hx (hb hby own_d_prog_24_method_8_code_42) (by decide) rfl ?_
      refine own_istoreN X10 hx #[.val (.ref s1), .val (.int (2 : Int32)), .val (.int (1 : Int32)), .val (.int (1 : Int32))] (hb hby own_d_prog_24_method_8_code_46) rfl rfl ?_
      refine own_iloadN X10 hx (hb hby own_d_prog_24_method_8_code_47) rfl rfl ?_
      refine own_ifT X10 hx (hb hby own_d_prog_24_method_8_code_48) (by decide) rfl (by decide) ?_
      refine own_iconst X10 hx (0 : Int32) (hb hby own_d_prog_24_method_8_code_70) (by decide) rfl ?_
      exact own_retNH X10 hx hZ hh10 HH1 hEL hlocks hret (by simp) (hb hby own_d_prog_24_method_8_code_71) (by decide) (by decide) (by decide) ⟨congrArg (fun q => some (Value.int q)) (by by_cases q1 : b1 = (46 : Int32) <;> by_cases q2 : b1 = (47 : Int32) <;> by_cases q3 : b1 = (0 : Int32) <;> simp_all [own_okN, own_eqv]), N10, by rw [hh10]; exact K2⟩
    · refine own_aloadN X10 hx (hb hby own_d_prog_24_method_8_code_33) rfl rfl rfl ?_
      refine own_iconst X10 hx (0 : Int32) (hb hby own_d_prog_24_method_8_code_34) (by decide) rfl ?_
      refine own_virtual X10 hx hZ (y := (⟨"java/lang/String", "indexOf", "(I)I"⟩ : MethodName)) (z := (⟨"java/lang/String", "indexOf", "(I)I"⟩ : MethodName)) hown (hw _ (List.mem_of_getElem? (i := 93) rfl)) (hw _ (List.mem_of_getElem? (i := 94) rfl)) (notFace_of_selects (args := #[]) (mvT hZ (hw _ (List.mem_of_getElem? (i := 96) rfl)))) (hw _ (List.mem_of_getElem? (i := 96) rfl)) (hw _ (List.mem_of_getElem? (i := 95) rfl)) (hw _ (List.mem_of_getElem? (i := 4) rfl)) (hw _ (List.mem_of_getElem? (i := 97) rfl)) (by decide) hh10 (by decide) (W := 0) (by decide) (by decide) (by decide) [(.int (0 : Int32))] [] (by rw [hml]; rfl) f4 (own_ix1_0 l Z a0 hw s1 b1 zc h1 n0 f3 SC hzc ⟨_, _, f4, f5, f6, f7, CB1⟩) own_pd5 rfl rfl rfl (hb hby own_d_prog_24_method_8_code_35) rfl ?_
      intro v12 T12 L12 X12 hQ12
      obtain ⟨rfl, Nq12, hh12⟩ := hQ12
      have N12 := Fr.app N10 Nq12
      show own_Ends p e below _ (T12.setTop (mkF m 38 #[.val (.ref s1), .val (.int (2 : Int32)), .val (.int (1 : Int32)), .unset] [(.int (if b1 = (0 : Int32) then (0 : Int32) else (-1 : Int32)))]))
      refine own_if_lt X12 hx (hb hby own_d_prog_24_method_8_code_38) (by decide) rfl rfl (fun hc38_13 => ?_) (fun hc38_13 => ?_)
      · refine own_iconst X12 hx (0 : Int32) (hb hby own_d_prog_24_method_8_code_45) (by decide) rfl ?_
        refine own_istoreN X12 hx #[.val (.ref s1), .val (.int (2 : Int32)), .val (.int (1 : Int32)), .val (.int (0 : Int32))] (hb hby own_d_prog_24_method_8_code_46) rfl rfl ?_
        refine own_iloadN X12 hx (hb hby own_d_prog_24_method_8_code_47) rfl rfl ?_
        refine own_ifT X12 hx (hb hby own_d_prog_24_method_8_code_48) (by decide) rfl (by decide) ?_
        refine own_iconst X12 hx (0 : Int32) (hb hby own_d_prog_24_method_8_code_70) (by decide) rfl ?_
        exact own_retNH X12 hx hZ hh12 HH1 hEL hlocks hret (by simp) (hb hby own_d_prog_24_method_8_code_71) (by decide) (by decide) (by decide) ⟨congrArg (fun q => some (Value.int q)) (by by_cases q1 : b1 = (46 : Int32) <;> by_cases q2 : b1 = (47 : Int32) <;> by_cases q3 : b1 = (0 : Int32) <;> simp_all [own_okN, own_eqv]), N12, by rw [hh12]; exact K2⟩
      · refine own_iconst X12 hx (1 : Int32) (hb hby own_d_prog_24_method_8_code_41) (by decide) rfl ?_
        refine own_goto X12 hx (hb hby own_d_prog_24_method_8_code_42) (by decide) rfl ?_
        refine own_istoreN X12 hx #[.val (.ref s1), .val (.int (2 : Int32)), .val (.int (1 : Int32)), .val (.int (1 : Int32))] (hb hby own_d_prog_24_method_8_code_46) rfl rfl ?_
        refine own_iloadN X12 hx (hb hby own_d_prog_24_method_8_code_47) rfl rfl ?_
        refine own_ifT X12 hx (hb hby own_d_prog_24_method_8_code_48) (by decide) rfl (by decide) ?_
        refine own_iconst X12 hx (0 : Int32) (hb hby own_d_prog_24_method_8_code_70) (by decide) rfl ?_
        exact own_retNH X12 hx hZ hh12 HH1 hEL hlocks hret (by simp) (hb hby own_d_prog_24_method_8_code_71) (by decide) (by decide) (by decide) ⟨congrArg (fun q => some (Value.int q)) (by by_cases q1 : b1 = (46 : Int32) <;> by_cases q2 : b1 = (47 : Int32) <;> by_cases q3 : b1 = (0 : Int32) <;> simp_all [own_okN, own_eqv]), N12, by rw [hh12]; exact K2⟩
  · refine own_aloadN X8 hx (hb hby own_d_prog_24_method_8_code_9) rfl rfl rfl ?_
    refine own_ldcS X8 hx hZ hown (hw _ (List.mem_of_getElem? (i := 92) rfl)) hwS hh8 HH1 hEL (List.mem_of_getElem? (i := 1) rfl) (vs := ([.int (46 : Int32), .int (46 : Int32)] : List Value)) (z := (2 : Int32)) (by decide +kernel) (by decide) (by decide) (hb hby own_d_prog_24_method_8_code_10) 8 (by decide) (by decide) (by decide) (by decide) rfl ?_
    intro ls14 T14 h14 lt14 k14 X14 e14 E14 hZ hown HH14 A14 Ex14 Fc14 Fv14 V14 ne14
    have K15 := K2.ext E14
    have f16 := (f3.ext E14)
    have f17 := (f4.ext E14)
    have f18 := (f5.ext E14)
    have f19 := (f6.ext E14)
    have f20 := (f7.ext E14)
    refine own_virtual X14 hx hZ (y := (⟨"java/lang/String", "equals", "(Ljava/lang/Object;)Z"⟩ : MethodName)) (z := (⟨"java/lang/String", "equals", "(Ljava/lang/Object;)Z"⟩ : MethodName)) hown (hw _ (List.mem_of_getElem? (i := 84) rfl)) (hw _ (List.mem_of_getElem? (i := 85) rfl)) (notFace_of_selects (args := #[]) (mvT hZ (hw _ (List.mem_of_getElem? (i := 87) rfl)))) (hw _ (List.mem_of_getElem? (i := 87) rfl)) (hw _ (List.mem_of_getElem? (i := 86) rfl)) (hw _ (List.mem_of_getElem? (i := 4) rfl)) (hw _ (List.mem_of_getElem? (i := 88) rfl)) (by decide) e14 (by decide) (W := 0) (by decide) (by decide) (by decide) [(.ref ls14)] [] (by rw [hml]; rfl) f17 (own_eqs2 l Z a0 hw s1 ls14 lt14 _ b1  zc h14 n0 f16 SC hzc ⟨_, _, f17, f18, f19, f20, CB1⟩ Ex14 Fv14 Fc14 V14) own_pd16 rfl rfl rfl (hb hby own_d_prog_24_method_8_code_12) rfl ?_
    intro v21 T21 L21 X21 hQ21
    obtain ⟨rfl, Nq21, hh21⟩ := hQ21
    have N21 := Fr.app N8 Nq21
    show own_Ends p e below _ (T21.setTop (mkF m 15 #[.val (.ref s1), .val (.int (2 : Int32)), .unset, .unset] [(.int (0 : Int32))]))
    refine own_ifT X21 hx (hb hby own_d_prog_24_method_8_code_15) (by decide) rfl (by decide) ?_
    refine own_iconst X21 hx (0 : Int32) (hb hby own_d_prog_24_method_8_code_22) (by decide) rfl ?_
    refine own_istoreN X21 hx #[.val (.ref s1), .val (.int (2 : Int32)), .val (.int (0 : Int32)), .unset] (hb hby own_d_prog_24_method_8_code_23) rfl rfl ?_
    refine own_aloadN X21 hx (hb hby own_d_prog_24_method_8_code_24) rfl rfl rfl ?_
    refine own_bipush X21 hx (47 : Int32) (hb hby own_d_prog_24_method_8_code_25) (by decide) rfl ?_
    refine own_virtual X21 hx hZ (y := (⟨"java/lang/String", "indexOf", "(I)I"⟩ : MethodName)) (z := (⟨"java/lang/String", "indexOf", "(I)I"⟩ : MethodName)) hown (hw _ (List.mem_of_getElem? (i := 93) rfl)) (hw _ (List.mem_of_getElem? (i := 94) rfl)) (notFace_of_selects (args := #[]) (mvT hZ (hw _ (List.mem_of_getElem? (i := 96) rfl)))) (hw _ (List.mem_of_getElem? (i := 96) rfl)) (hw _ (List.mem_of_getElem? (i := 95) rfl)) (hw _ (List.mem_of_getElem? (i := 4) rfl)) (hw _ (List.mem_of_getElem? (i := 97) rfl)) (by decide) hh21 (by decide) (W := 0) (by decide) (by decide) (by decide) [(.int (47 : Int32))] [] (by rw [hml]; rfl) f17 (own_ix1_47 l Z a0 hw s1 b1 zc h14 n0 f16 SC hzc ⟨_, _, f17, f18, f19, f20, CB1⟩) own_pd5 rfl rfl rfl (hb hby own_d_prog_24_method_8_code_27) rfl ?_
    intro v22 T22 L22 X22 hQ22
    obtain ⟨rfl, Nq22, hh22⟩ := hQ22
    have N22 := Fr.app N21 Nq22
    show own_Ends p e below _ (T22.setTop (mkF m 30 #[.val (.ref s1), .val (.int (2 : Int32)), .val (.int (0 : Int32)), .unset] [(.int (if b1 = (47 : Int32) then (0 : Int32) else (-1 : Int32)))]))
    refine own_if_ge X22 hx (hb hby own_d_prog_24_method_8_code_30) (by decide) rfl rfl (fun hc30_23 => ?_) (fun hc30_23 => ?_)
    · refine own_iconst X22 hx (1 : Int32) (hb hby own_d_prog_24_method_8_code_41) (by decide) rfl ?_
      refine own_goto X22 hx (hb hby own_d_prog_24_method_8_code_42) (by decide) rfl ?_
      refine own_istoreN X22 hx #[.val (.ref s1), .val (.int (2 : Int32)), .val (.int (0 : Int32)), .val (.int (1 : Int32))] (hb hby own_d_prog_24_method_8_code_46) rfl rfl ?_
      refine own_iloadN X22 hx (hb hby own_d_prog_24_method_8_code_47) rfl rfl ?_
      refine own_ifF X22 hx (hb hby own_d_prog_24_method_8_code_48) rfl (by decide) ?_
      refine own_iloadN X22 hx (hb hby own_d_prog_24_method_8_code_51) rfl rfl ?_
      refine own_ifT X22 hx (hb hby own_d_prog_24_method_8_code_52) (by decide) rfl (by decide) ?_
      refine own_iconst X22 hx (0 : Int32) (hb hby own_d_prog_24_method_8_code_70) (by decide) rfl ?_
      exact own_retNH X22 hx hZ hh22 HH14 hEL hlocks hret (by simp) (hb hby own_d_prog_24_method_8_code_71) (by decide) (by decide) (by decide) ⟨congrArg (fun q => some (Value.int q)) (by by_cases q1 : b1 = (46 : Int32) <;> by_cases q2 : b1 = (47 : Int32) <;> by_cases q3 : b1 = (0 : Int32) <;> simp_all [own_okN, own_eqv]), N22, by rw [hh22]; exact K15⟩
    · refine own_aloadN X22 hx (hb hby own_d_prog_24_method_8_code_33) rfl rfl rfl ?_
      refine own_iconst X22 hx (0 : Int32) (hb hby own_d_prog_24_method_8_code_34) (by decide) rfl ?_
      refine own_virtual X22 hx hZ (y := (⟨"java/lang/String", "indexOf", "(I)I"⟩ : MethodName)) (z := (⟨"java/lang/String", "indexOf", "(I)I"⟩ : MethodName)) hown (hw _ (List.mem_of_getElem? (i := 93) rfl)) (hw _ (List.mem_of_getElem? (i := 94) rfl)) (notFace_of_selects (args := #[]) (mvT hZ (hw _ (List.mem_of_getElem? (i := 96) rfl)))) (hw _ (List.mem_of_getElem? (i := 96) rfl)) (hw _ (List.mem_of_getElem? (i := 95) rfl)) (hw _ (List.mem_of_getElem? (i := 4) rfl)) (hw _ (List.mem_of_getElem? (i := 97) rfl)) (by decide) hh22 (by decide) (W := 0) (by decide) (by decide) (by decide) [(.int (0 : Int32))] [] (by rw [hml]; rfl) f17 (own_ix1_0 l Z a0 hw s1 b1 zc h14 n0 f16 SC hzc ⟨_, _, f17, f18, f19, f20, CB1⟩) own_pd5 rfl rfl rfl (hb hby own_d_prog_24_method_8_code_35) rfl ?_
      intro v24 T24 L24 X24 hQ24
      obtain ⟨rfl, Nq24, hh24⟩ := hQ24
      have N24 := Fr.app N22 Nq24
      show own_Ends p e below _ (T24.setTop (mkF m 38 #[.val (.ref s1), .val (.int (2 : Int32)), .val (.int (0 : Int32)), .unset] [(.int (if b1 = (0 : Int32) then (0 : Int32) else (-1 : Int32)))]))
      refine own_if_lt X24 hx (hb hby own_d_prog_24_method_8_code_38) (by decide) rfl rfl (fun hc38_25 => ?_) (fun hc38_25 => ?_)
      · refine own_iconst X24 hx (0 : Int32) (hb hby own_d_prog_24_method_8_code_45) (by decide) rfl ?_
        refine own_istoreN X24 hx #[.val (.ref s1), .val (.int (2 : Int32)), .val (.int (0 : Int32)), .val (.int (0 : Int32))] (hb hby own_d_prog_24_method_8_code_46) rfl rfl ?_
        refine own_iloadN X24 hx (hb hby own_d_prog_24_method_8_code_47) rfl rfl ?_
        refine own_ifF X24 hx (hb hby own_d_prog_24_method_8_code_48) rfl (by decide) ?_
        refine own_iloadN X24 hx (hb hby own_d_prog_24_method_8_code_51) rfl rfl ?_
        refine own_ifF X24 hx (hb hby own_d_prog_24_method_8_code_52) rfl (by decide) ?_
        refine own_iloadN X24 hx (hb hby own_d_prog_24_method_8_code_55) rfl rfl ?_
        refine own_ifF X24 hx (hb hby own_d_prog_24_method_8_code_56) rfl (by decide) ?_
        refine own_iloadN X24 hx (hb hby own_d_prog_24_method_8_code_59) rfl rfl ?_
        refine own_sipush X24 hx (255 : Int32) (hb hby own_d_prog_24_method_8_code_60) (by decide) rfl ?_
        refine own_icmpF X24 hx (hb hby own_d_prog_24_method_8_code_63) rfl (by decide) ?_
        refine own_iconst X24 hx (1 : Int32) (hb hby own_d_prog_24_method_8_code_66) (by decide) rfl ?_
        refine own_goto X24 hx (hb hby own_d_prog_24_method_8_code_67) (by decide) rfl ?_
        exact own_retNH X24 hx hZ hh24 HH14 hEL hlocks hret (by simp) (hb hby own_d_prog_24_method_8_code_71) (by decide) (by decide) (by decide) ⟨congrArg (fun q => some (Value.int q)) (by by_cases q1 : b1 = (46 : Int32) <;> by_cases q2 : b1 = (47 : Int32) <;> by_cases q3 : b1 = (0 : Int32) <;> simp_all [own_okN, own_eqv]), N24, by rw [hh24]; exact K15⟩
      · refine own_iconst X24 hx (1 : Int32) (hb hby own_d_prog_24_method_8_code_41) (by decide) rfl ?_
        refine own_goto X24 hx (hb hby own_d_prog_24_method_8_code_42) (by decide) rfl ?_
        refine own_istoreN X24 hx #[.val (.ref s1), .val (.int (2 : Int32)), .val (.int (0 : Int32)), .val (.int (1 : Int32))] (hb hby own_d_prog_24_method_8_code_46) rfl rfl ?_
        refine own_iloadN X24 hx (hb hby own_d_prog_24_method_8_code_47) rfl rfl ?_
        refine own_ifF X24 hx (hb hby own_d_prog_24_method_8_code_48) rfl (by decide) ?_
        refine own_iloadN X24 hx (hb hby own_d_prog_24_method_8_code_51) rfl rfl ?_
        refine own_ifT X24 hx (hb hby own_d_prog_24_method_8_code_52) (by decide) rfl (by decide) ?_
        refine own_iconst X24 hx (0 : Int32) (hb hby own_d_prog_24_method_8_code_70) (by decide) rfl ?_
        exact own_retNH X24 hx hZ hh24 HH14 hEL hlocks hret (by simp) (hb hby own_d_prog_24_method_8_code_71) (by decide) (by decide) (by decide) ⟨congrArg (fun q => some (Value.int q)) (by by_cases q1 : b1 = (46 : Int32) <;> by_cases q2 : b1 = (47 : Int32) <;> by_cases q3 : b1 = (0 : Int32) <;> simp_all [own_okN, own_eqv]), N24, by rw [hh24]; exact K15⟩
def own_AL (Z : State) (h : Heap) (a ed : Addr) (m n : Int32) : Prop := Exa Z h a "java/util/ArrayList" ∧ Fld Z h a "java/util/AbstractList" "modCount" "I" (.int m) ∧ Fld Z h a "java/util/ArrayList" "elementData" "[Ljava/lang/Object;" (.ref ed) ∧ Fld Z h a "java/util/ArrayList" "size" "I" (.int n)
set_option maxRecDepth 65536 in
set_option maxHeartbeats 40000000 in
theorem own_aci (l : Launch) (Z : State) (a0 : Array Value) (hw : ∀ d ∈ tables_1, d.before a0 Z = true) (a1 : Addr) (h0 : Heap) (n0 : Nat)  :
    own_Met l (⟨"java/util/AbstractCollection", "<init>", "()V"⟩ : MethodName) jdk_22_method_1_code 1 none ({ frames := 1, cells := 0, slots := 0, locals := 12 } : Room) Z #[(.ref a1)] h0 (fun v h L => v = none ∧ Fr n0 L ∧ h = h0) := by
  refine own_met (plainFor_of_name own_pn_java_util_AbstractCollection) ?_
  intro p e s m below meth c T0 hx hby hml hZ hown hnm hret hlocks X0 e0 hh0
  have ef : entryFrame m #[(.ref a1)] 1 = mkF m 0 #[.val (.ref a1)] [] := by first | (simp [entryFrame, mkF, argsToLocals, Value.category]; done) | rfl
  refine own_entry ef ?_
  have N0 := Fr.nil n0
  refine own_aloadN X0 hx (hb hby own_d_jdk_22_method_1_code_0) rfl rfl rfl ?_
  refine own_initO X0 hx hZ hown (hw _ (List.mem_of_getElem? (i := 161) rfl)) (hw _ (List.mem_of_getElem? (i := 35) rfl)) (hw _ (List.mem_of_getElem? (i := 36) rfl)) e0 (by rw [hml]; rfl) (hb hby own_d_jdk_22_method_1_code_1) 0 rfl (by decide) (by decide) rfl ?_
  intro T1 X1 e1
  exact own_ret X1 hx hlocks hret (hb hby own_d_jdk_22_method_1_code_4) (by decide) (by decide) ⟨rfl, N0, e1⟩
set_option maxRecDepth 65536 in
set_option maxHeartbeats 40000000 in
theorem own_abl (l : Launch) (Z : State) (a0 : Array Value) (hw : ∀ d ∈ tables_1, d.before a0 Z = true) (a1 : Addr) (h0 : Heap) (n0 : Nat) (g_a1 : n0 ≤ a1) (E0 : Exa Z h0 a1 "java/util/ArrayList") (F1 : Fld Z h0 a1 "java/util/AbstractList" "modCount" "I" (.int (0 : Int32))) (F2 : Fld Z h0 a1 "java/util/ArrayList" "elementData" "[Ljava/lang/Object;" .null) (F3 : Fld Z h0 a1 "java/util/ArrayList" "size" "I" (.int (0 : Int32))) :
    own_Met l (⟨"java/util/AbstractList", "<init>", "()V"⟩ : MethodName) jdk_39_method_1_code 1 none ({ frames := 2, cells := 0, slots := 0, locals := 24 } : Room) Z #[(.ref a1)] h0 (fun v h L => v = none ∧ Fr n0 L ∧ Keep h0 h [a1] ∧ Exa Z h a1 "java/util/ArrayList" ∧ Fld Z h a1 "java/util/AbstractList" "modCount" "I" (.int (0 : Int32)) ∧ Fld Z h a1 "java/util/ArrayList" "elementData" "[Ljava/lang/Object;" .null ∧ Fld Z h a1 "java/util/ArrayList" "size" "I" (.int (0 : Int32))) := by
  refine own_met (plainFor_of_name own_pn_java_util_AbstractList) ?_
  intro p e s m below meth c T0 hx hby hml hZ hown hnm hret hlocks X0 e0 hh0
  have ef : entryFrame m #[(.ref a1)] 1 = mkF m 0 #[.val (.ref a1)] [] := by first | (simp [entryFrame, mkF, argsToLocals, Value.category]; done) | rfl
  refine own_entry ef ?_
  have N0 := Fr.nil n0
  have K0 := Keep.refl h0 [a1]
  refine own_aloadN X0 hx (hb hby own_d_jdk_39_method_1_code_0) rfl rfl rfl ?_
  refine own_special X0 hx hZ (y := (⟨"java/util/AbstractCollection", "<init>", "()V"⟩ : MethodName)) rfl hown (hw _ (List.mem_of_getElem? (i := 155) rfl)) (hw _ (List.mem_of_getElem? (i := 156) rfl)) (hw _ (List.mem_of_getElem? (i := 159) rfl)) (hw _ (List.mem_of_getElem? (i := 160) rfl)) (by decide) e0 (by decide) (W := 0) (by decide) (by decide) (by decide) [] [] (by rw [hml]; rfl) (a := a1) (own_aci l Z a0 hw a1 h0 n0) own_pd17 rfl rfl rfl (hb hby own_d_jdk_39_method_1_code_1) rfl ?_
  intro v1 T1 L1 X1 hQ1
  obtain ⟨rfl, Nq1, hh1⟩ := hQ1
  have N1 := Fr.app N0 Nq1
  show own_Ends p e below _ (T1.setTop (mkF m 4 #[.val (.ref a1)] []))
  refine own_aloadN X1 hx (hb hby own_d_jdk_39_method_1_code_4) rfl rfl rfl ?_
  refine own_iconst X1 hx (0 : Int32) (hb hby own_d_jdk_39_method_1_code_5) (by decide) rfl ?_
  refine own_putF X1 hx hZ hown (host := "") (Or.inl (hw _ (List.mem_of_getElem? (i := 162) rfl))) Via.refl hh1 F1 E0 (Or.inl (hw _ (List.mem_of_getElem? (i := 163) rfl))) (hw _ (List.mem_of_getElem? (i := 130) rfl)) (ty := .int) (by decide) rfl rfl N1 g_a1 (hb hby own_d_jdk_39_method_1_code_6) rfl ?_
  intro T2 h2 X2 e2 W2 N2
  have K3 := K0.wr W2 (Or.inl (List.mem_of_getElem? (i := 0) rfl))
  have f4 := F1.same W2
  have f5 := (E0.wr W2)
  have f6 := (F2.other W2 (Or.inr (slot_ne (Or.inl (hw _ (List.mem_of_getElem? (i := 167) rfl))) (Or.inl (hw _ (List.mem_of_getElem? (i := 163) rfl))) (by decide) (t := (.array (.object "java/lang/Object"))) (t' := .int) (by decide) (by decide))))
  have f7 := (F3.other W2 (Or.inr (slot_ne (Or.inl (hw _ (List.mem_of_getElem? (i := 217) rfl))) (Or.inl (hw _ (List.mem_of_getElem? (i := 163) rfl))) (by decide) (t := .int) (t' := .int) (by decide) (by decide))))
  exact own_ret X2 hx hlocks hret (hb hby own_d_jdk_39_method_1_code_9) (by decide) (by decide) ⟨rfl, N2, by rw [e2]; exact ⟨K3, f5, f4, f6, f7⟩⟩
set_option maxRecDepth 65536 in
set_option maxHeartbeats 40000000 in
theorem own_aliI (l : Launch) (Z : State) (a0 : Array Value) (hw : ∀ d ∈ tables_1, d.before a0 Z = true) (a1 : Addr) (h0 : Heap) (n0 : Nat) (O0 : Old Z n0 h0) (g_a1 : n0 ≤ a1) (E0 : Exa Z h0 a1 "java/util/ArrayList") (D0 : (∀ {O nm d : String} {ty : FieldType}, Laid Z a0 "java/util/ArrayList" O nm d → parseFieldDescriptor d = some ty → Fld Z h0 a1 O nm d (defaultValue ty))) :
    own_Met l (⟨"java/util/ArrayList", "<init>", "(I)V"⟩ : MethodName) jdk_38_method_1_code 2 none ({ frames := 3, cells := 1, slots := 1, locals := 36 } : Room) Z #[(.ref a1), (.int (1 : Int32))] h0 (fun v h L => v = none ∧ Fr n0 L ∧ Keep h0 h [a1] ∧ ∃ (ed : Addr) (k : ClassId), n0 ≤ ed ∧ h0.size ≤ ed ∧ own_AL Z h a1 ed 0 0 ∧ Arv Z h ed k (.object "java/lang/Object") (1 : Int32) [.null] .null ∧ own_OE Z k) := by
  refine own_met (plainFor_of_name own_pn_java_util_ArrayList) ?_
  intro p e s m below meth c T0 hx hby hml hZ hown hnm hret hlocks X0 e0 hh0
  have ef : entryFrame m #[(.ref a1), (.int (1 : Int32))] 2 = mkF m 0 #[.val (.ref a1), .val (.int (1 : Int32))] [] := by first | (simp [entryFrame, mkF, argsToLocals, Value.category]; done) | rfl
  refine own_entry ef ?_
  have N0 := Fr.nil n0
  have K0 := Keep.refl h0 [a1]
  have Fa1_modCount : Fld Z h0 a1 "java/util/AbstractList" "modCount" "I" (.int (0 : Int32)) := D0 (Or.inl (hw _ (List.mem_of_getElem? (i := 163) rfl))) (ty := .int) (by decide)
  have Fa1_elementData : Fld Z h0 a1 "java/util/ArrayList" "elementData" "[Ljava/lang/Object;" .null := D0 (Or.inl (hw _ (List.mem_of_getElem? (i := 167) rfl))) (ty := (.array (.object "java/lang/Object"))) (by decide)
  have Fa1_size : Fld Z h0 a1 "java/util/ArrayList" "size" "I" (.int (0 : Int32)) := D0 (Or.inl (hw _ (List.mem_of_getElem? (i := 217) rfl))) (ty := .int) (by decide)
  refine own_aloadN X0 hx (hb hby own_d_jdk_38_method_1_code_0) rfl rfl rfl ?_
  refine own_special X0 hx hZ (y := (⟨"java/util/AbstractList", "<init>", "()V"⟩ : MethodName)) rfl hown (hw _ (List.mem_of_getElem? (i := 149) rfl)) (hw _ (List.mem_of_getElem? (i := 150) rfl)) (hw _ (List.mem_of_getElem? (i := 153) rfl)) (hw _ (List.mem_of_getElem? (i := 154) rfl)) (by decide) e0 (by decide) (W := 0) (by decide) (by decide) (by decide) [] [] (by rw [hml]; rfl) (a := a1) (own_abl l Z a0 hw a1 h0 n0 g_a1 E0 Fa1_modCount Fa1_elementData Fa1_size) own_pd17 rfl rfl rfl (hb hby own_d_jdk_38_method_1_code_1) rfl ?_
  intro v1 T1 L1 X1 hQ1
  obtain ⟨rfl, Nq1, Kq1, El1, Ml1, Dl1, Sl1⟩ := hQ1
  have N1 := Fr.app N0 Nq1
  have K2 := K0.trans Kq1 (allS (Or.inl (List.mem_of_getElem? (i := 0) rfl)) all0)
  show own_Ends p e below _ (T1.setTop (mkF m 4 #[.val (.ref a1), .val (.int (1 : Int32))] []))
  refine own_iloadN X1 hx (hb hby own_d_jdk_38_method_1_code_4) rfl rfl ?_
  refine own_ifF X1 hx (hb hby own_d_jdk_38_method_1_code_5) rfl (by decide) ?_
  refine own_aloadN X1 hx (hb hby own_d_jdk_38_method_1_code_8) rfl rfl rfl ?_
  refine own_iloadN X1 hx (hb hby own_d_jdk_38_method_1_code_9) rfl rfl ?_
  refine own_newRE X1 hx hZ hown (hw _ (List.mem_of_getElem? (i := 164) rfl)) (hw _ (List.mem_of_getElem? (i := 165) rfl)) rfl (hb hby own_d_jdk_38_method_1_code_10) (by decide) 1 (by decide) (by decide) (by decide) (by decide) rfl ?_
  intro T3 h3 b3 k3 X3 e3 g3 E3 V3q Ov3
  have f4 := (O0.keep Kq1 (allS g_a1 all0))
  have g_b3 : n0 ≤ b3 := Nat.le_trans (own_oz f4) (Nat.le_of_eq g3.symm)
  have sz_b3 : h0.size ≤ b3 := Nat.le_trans K2.1 (Nat.le_of_eq g3.symm)
  have K5 := K2.ext E3
  have V3 : Arv Z h3 b3 k3 (.object "java/lang/Object") (1 : Int32) [.null] .null := Arv.pad V3q (pad_rep [] .null 1)
  have f6 := (Dl1.ext E3)
  have f7 := (El1.ext E3)
  refine own_putF X3 hx hZ hown (host := "") (Or.inl (hw _ (List.mem_of_getElem? (i := 166) rfl))) Via.refl e3 f6 f7 (Or.inl (hw _ (List.mem_of_getElem? (i := 167) rfl))) (hw _ (List.mem_of_getElem? (i := 130) rfl)) (ty := (.array (.object "java/lang/Object"))) (by decide) rfl rfl N1 g_a1 (hb hby own_d_jdk_38_method_1_code_13) rfl ?_
  intro T8 h8 X8 e8 W8 N8
  have K9 := K5.wr W8 (Or.inl (List.mem_of_getElem? (i := 0) rfl))
  have f10 := f6.same W8
  refine own_goto X8 hx (hb hby own_d_jdk_38_method_1_code_16) (by decide) rfl ?_
  have f11 := (f7.wr W8)
  have f12 := ((Ml1.ext E3).other W8 (Or.inr (slot_ne (Or.inl (hw _ (List.mem_of_getElem? (i := 163) rfl))) (Or.inl (hw _ (List.mem_of_getElem? (i := 167) rfl))) (by decide) (t := .int) (t' := (.array (.object "java/lang/Object"))) (by decide) (by decide))))
  have f13 := ((Sl1.ext E3).other W8 (Or.inr (slot_ne (Or.inl (hw _ (List.mem_of_getElem? (i := 217) rfl))) (Or.inl (hw _ (List.mem_of_getElem? (i := 167) rfl))) (by decide) (t := .int) (t' := (.array (.object "java/lang/Object"))) (by decide) (by decide))))
  have f14 := (V3.other W8 (Ne.symm (Nat.ne_of_lt (Nat.lt_of_lt_of_le El1.lt (Nat.le_of_eq g3.symm)))))
  exact own_ret X8 hx hlocks hret (hb hby own_d_jdk_38_method_1_code_60) (by decide) (by decide) ⟨rfl, N8, by rw [e8]; exact ⟨K9, b3, _, g_b3, sz_b3, ⟨f11, f12, f10, f13⟩, f14, Ov3⟩⟩
set_option maxRecDepth 65536 in
set_option maxHeartbeats 40000000 in
theorem own_cp3 (l : Launch) (Z : State) (a0 : Array Value) (hw : ∀ d ∈ tables_1, d.before a0 Z = true) (c1 mr : Addr) (kc : ClassId) (h0 : Heap) (n0 : Nat) (O0 : Old Z n0 h0) (M : own_Mir Z "[Ljava/lang/Object;" mr) (VE : Arv Z h0 c1 kc (.object "java/lang/Object") (0 : Int32) [] .null) (OA : Z.vm.findClass "[Ljava/lang/Object;" = some kc) :
    own_Met l (⟨"java/util/Arrays", "copyOf", "([Ljava/lang/Object;ILjava/lang/Class;)[Ljava/lang/Object;"⟩ : MethodName) jdk_65_method_120_code 4 (some (.array (.object "java/lang/Object"))) ({ frames := 1, cells := 1, slots := 0, locals := 18 } : Room) Z #[(.ref c1), (.int (0 : Int32)), (.ref mr)] h0 (fun v h L => ∃ (b : Addr) (k : ClassId), v = some (.ref b) ∧ Fr n0 L ∧ Keep h0 h [] ∧ n0 ≤ b ∧ h0.size ≤ b ∧ Arv Z h b k (.object "java/lang/Object") (0 : Int32) [] .null) := by
  refine own_met (plainFor_of_name own_pn_java_util_Arrays) ?_
  intro p e s m below meth c T0 hx hby hml hZ hown hnm hret hlocks X0 e0 hh0
  have ef : entryFrame m #[(.ref c1), (.int (0 : Int32)), (.ref mr)] 4 = mkF m 0 #[.val (.ref c1), .val (.int (0 : Int32)), .val (.ref mr), .unset] [] := by first | (simp [entryFrame, mkF, argsToLocals, Value.category]; done) | rfl
  refine own_entry ef ?_
  have N0 := Fr.nil n0
  have K0 := Keep.refl h0 []
  refine own_aloadN X0 hx (hb hby own_d_jdk_65_method_120_code_0) rfl rfl rfl ?_
  refine own_ldcM X0 hx hZ hown (hw _ (List.mem_of_getElem? (i := 199) rfl)) M e0 (hb hby own_d_jdk_65_method_120_code_1) rfl ?_
  intro T1 X1 e1
  refine own_acmp_ne X1 hx (hb hby own_d_jdk_65_method_120_code_3) (by decide) rfl rfl (fun hc3_2 => absurd rfl hc3_2) (fun hc3_2 => ?_)
  refine own_iloadN X1 hx (hb hby own_d_jdk_65_method_120_code_6) rfl rfl ?_
  refine own_newRE X1 hx hZ hown (hw _ (List.mem_of_getElem? (i := 200) rfl)) (hw _ (List.mem_of_getElem? (i := 165) rfl)) e1 (hb hby own_d_jdk_65_method_120_code_7) (by decide) 0 (by decide) (by decide) (by decide) (by decide) rfl ?_
  intro T3 h3 b3 k3 X3 e3 g3 E3 V3q Ov3
  have g_b3 : n0 ≤ b3 := Nat.le_trans (own_oz O0) (Nat.le_of_eq g3.symm)
  have sz_b3 : h0.size ≤ b3 := Nat.le_trans K0.1 (Nat.le_of_eq g3.symm)
  have K4 := K0.ext E3
  have V3 : Arv Z h3 b3 k3 (.object "java/lang/Object") (0 : Int32) [] .null := V3q
  refine own_goto X3 hx (hb hby own_d_jdk_65_method_120_code_10) (by decide) rfl ?_
  refine own_astoreN X3 hx #[.val (.ref c1), .val (.int (0 : Int32)), .val (.ref mr), .val (.ref b3)] (hb hby own_d_jdk_65_method_120_code_24) rfl rfl rfl ?_
  refine own_aloadN X3 hx (hb hby own_d_jdk_65_method_120_code_25) rfl rfl rfl ?_
  refine own_iconst X3 hx (0 : Int32) (hb hby own_d_jdk_65_method_120_code_26) (by decide) rfl ?_
  refine own_aloadN X3 hx (hb hby own_d_jdk_65_method_120_code_27) rfl rfl rfl ?_
  refine own_iconst X3 hx (0 : Int32) (hb hby own_d_jdk_65_method_120_code_28) (by decide) rfl ?_
  refine own_aloadN X3 hx (hb hby own_d_jdk_65_method_120_code_29) rfl rfl rfl ?_
  have f5 := (VE.ext E3)
  refine own_arraylength X3 hx hZ e3 f5 (hb hby own_d_jdk_65_method_120_code_30) rfl ?_
  refine own_iloadN X3 hx (hb hby own_d_jdk_65_method_120_code_31) rfl rfl ?_
  refine own_static X3 hx hZ (y := (⟨"java/lang/Math", "min", "(II)I"⟩ : MethodName)) hown (hw _ (List.mem_of_getElem? (i := 201) rfl)) (hw _ (List.mem_of_getElem? (i := 124) rfl)) (hw _ (List.mem_of_getElem? (i := 121) rfl)) (hw _ (List.mem_of_getElem? (i := 125) rfl)) (by decide) e3 (by decide) (W := 4) (by decide) (by decide) (by decide) [(.int (0 : Int32)), (.int (0 : Int32))] [(.int (0 : Int32)), (.ref b3), (.int (0 : Int32)), (.ref c1)] (by rw [hml]; rfl) (own_min00 l Z a0 hw h3 n0) own_pd12 rfl rfl rfl (hb hby own_d_jdk_65_method_120_code_32) rfl ?_
  intro v6 T6 L6 X6 hQ6
  obtain ⟨rfl, Nq6, hh6⟩ := hQ6
  have N6 := Fr.app N0 Nq6
  show own_Ends p e below _ (T6.setTop (mkF m 35 #[.val (.ref c1), .val (.int (0 : Int32)), .val (.ref mr), .val (.ref b3)] [(.int (0 : Int32)), (.int (0 : Int32)), (.ref b3), (.int (0 : Int32)), (.ref c1)]))
  refine own_cpA X6 hx hZ hown (hw _ (List.mem_of_getElem? (i := 202) rfl)) (hw _ (List.mem_of_getElem? (i := 205) rfl)) (hw _ (List.mem_of_getElem? (i := 203) rfl)) (hw _ (List.mem_of_getElem? (i := 204) rfl)) hh6 f5 V3 [] (Or.inr ⟨rfl, rfl, own_stl0⟩) (by decide) (by decide) (by decide) (by decide) (by decide) rfl (Nat.le_of_ble_eq_true rfl) N6 g_b3 (by rw [hml]; rfl) (hb hby own_d_jdk_65_method_120_code_35) (by decide) 0 rfl (by decide) rfl ?_
  intro T7 h7 L7 X7 e7 N7 Kq7 V7q
  have K8 := K4.trans Kq7 (allS (Or.inr sz_b3) all0)
  have V7 : Arv Z h7 b3 _ (.object "java/lang/Object") (0 : Int32) [] .null := V7q
  refine own_aloadN X7 hx (hb hby own_d_jdk_65_method_120_code_38) rfl rfl rfl ?_
  exact own_retA X7 hx hlocks hret rfl rfl (hb hby own_d_jdk_65_method_120_code_39) (by decide) (by decide) ⟨b3, _, rfl, N7, by rw [e7]; exact ⟨K8, g_b3, sz_b3, V7⟩⟩
set_option maxRecDepth 65536 in
set_option maxHeartbeats 40000000 in
theorem own_cp2 (l : Launch) (Z : State) (a0 : Array Value) (hw : ∀ d ∈ tables_1, d.before a0 Z = true) (c1 mr : Addr) (kc : ClassId) (h0 : Heap) (n0 : Nat) (O0 : Old Z n0 h0) (M : own_Mir Z "[Ljava/lang/Object;" mr) (VE : Arv Z h0 c1 kc (.object "java/lang/Object") (0 : Int32) [] .null) (OA : Z.vm.findClass "[Ljava/lang/Object;" = some kc) :
    own_Met l (⟨"java/util/Arrays", "copyOf", "([Ljava/lang/Object;I)[Ljava/lang/Object;"⟩ : MethodName) jdk_65_method_119_code 2 (some (.array (.object "java/lang/Object"))) ({ frames := 2, cells := 1, slots := 0, locals := 33 } : Room) Z #[(.ref c1), (.int (0 : Int32))] h0 (fun v h L => ∃ (b : Addr) (k : ClassId), v = some (.ref b) ∧ Fr n0 L ∧ Keep h0 h [] ∧ n0 ≤ b ∧ h0.size ≤ b ∧ Arv Z h b k (.object "java/lang/Object") (0 : Int32) [] .null) := by
  refine own_met (plainFor_of_name own_pn_java_util_Arrays) ?_
  intro p e s m below meth c T0 hx hby hml hZ hown hnm hret hlocks X0 e0 hh0
  have ef : entryFrame m #[(.ref c1), (.int (0 : Int32))] 2 = mkF m 0 #[.val (.ref c1), .val (.int (0 : Int32))] [] := by first | (simp [entryFrame, mkF, argsToLocals, Value.category]; done) | rfl
  refine own_entry ef ?_
  have N0 := Fr.nil n0
  have K0 := Keep.refl h0 []
  refine own_aloadN X0 hx (hb hby own_d_jdk_65_method_119_code_0) rfl rfl rfl ?_
  refine own_iloadN X0 hx (hb hby own_d_jdk_65_method_119_code_1) rfl rfl ?_
  refine own_aloadN X0 hx (hb hby own_d_jdk_65_method_119_code_2) rfl rfl rfl ?_
  refine own_gcls X0 hx hZ hown (hw _ (List.mem_of_getElem? (i := 190) rfl)) (hw _ (List.mem_of_getElem? (i := 191) rfl)) (hw _ (List.mem_of_getElem? (i := 244) rfl)) (hw _ (List.mem_of_getElem? (i := 193) rfl)) (hw _ (List.mem_of_getElem? (i := 192) rfl)) (hw _ (List.mem_of_getElem? (i := 194) rfl)) e0 (own_exaOF VE OA) M (by rw [hml]; rfl) (hb hby own_d_jdk_65_method_119_code_3) (by decide) 2 rfl (by decide) rfl ?_
  intro T1 X1 e1
  refine own_static X1 hx hZ (y := (⟨"java/util/Arrays", "copyOf", "([Ljava/lang/Object;ILjava/lang/Class;)[Ljava/lang/Object;"⟩ : MethodName)) hown (hw _ (List.mem_of_getElem? (i := 196) rfl)) (hw _ (List.mem_of_getElem? (i := 197) rfl)) (hw _ (List.mem_of_getElem? (i := 188) rfl)) (hw _ (List.mem_of_getElem? (i := 198) rfl)) (by decide) e1 (by decide) (W := 0) (by decide) (by decide) (by decide) [(.ref c1), (.int (0 : Int32)), (.ref mr)] [] (by rw [hml]; rfl) (own_cp3 l Z a0 hw c1 mr _ h0 n0 O0 M VE OA) own_pd18 rfl rfl rfl (hb hby own_d_jdk_65_method_119_code_6) rfl ?_
  intro v2 T2 L2 X2 hQ2
  obtain ⟨b2, k2, rfl, Nq2, Kq2, g_b2, sz_b2, V2⟩ := hQ2
  have sz_b2 := Nat.le_trans K0.1 sz_b2
  have N2 := Fr.app N0 Nq2
  have K3 := K0.trans Kq2 all0
  show own_Ends p e below _ (T2.setTop (mkF m 9 #[.val (.ref c1), .val (.int (0 : Int32))] [(.ref b2)]))
  exact own_retA X2 hx hlocks hret rfl rfl (hb hby own_d_jdk_65_method_119_code_9) (by decide) (by decide) ⟨b2, _, rfl, N2, by exact ⟨K3, g_b2, sz_b2, V2⟩⟩
set_option maxRecDepth 65536 in
set_option maxHeartbeats 40000000 in
theorem own_lnA (l : Launch) (Z : State) (a0 : Array Value) (hw : ∀ d ∈ tables_1, d.before a0 Z = true) (nl : Addr) (c1 mr : Addr) (kc : ClassId) (h0 : Heap) (n0 : Nat) (O0 : Old Z n0 h0) (M : own_Mir Z "[Ljava/lang/Object;" mr) (VE : Arv Z h0 c1 kc (.object "java/lang/Object") (0 : Int32) [] .null) (OA : Z.vm.findClass "[Ljava/lang/Object;" = some kc) (FN : Fld Z h0 nl "java/util/ImmutableCollections$ListN" "elements" "[Ljava/lang/Object;" (.ref c1)) :
    own_Met l (⟨"java/util/ImmutableCollections$ListN", "toArray", "()[Ljava/lang/Object;"⟩ : MethodName) jdk_45_method_7_code 1 (some (.array (.object "java/lang/Object"))) ({ frames := 3, cells := 1, slots := 0, locals := 46 } : Room) Z #[(.ref nl)] h0 (fun v h L => ∃ (b : Addr) (k : ClassId), v = some (.ref b) ∧ Fr n0 L ∧ Keep h0 h [] ∧ n0 ≤ b ∧ h0.size ≤ b ∧ Arv Z h b k (.object "java/lang/Object") (0 : Int32) [] .null) := by
  refine own_met (plainFor_of_name own_pn_java_util_ImmutableCollections_ListN) ?_
  intro p e s m below meth c T0 hx hby hml hZ hown hnm hret hlocks X0 e0 hh0
  have ef : entryFrame m #[(.ref nl)] 1 = mkF m 0 #[.val (.ref nl)] [] := by first | (simp [entryFrame, mkF, argsToLocals, Value.category]; done) | rfl
  refine own_entry ef ?_
  have N0 := Fr.nil n0
  have K0 := Keep.refl h0 []
  refine own_aloadN X0 hx (hb hby own_d_jdk_45_method_7_code_0) rfl rfl rfl ?_
  refine own_getF X0 hx hZ hown (host := "") (Or.inl (hw _ (List.mem_of_getElem? (i := 144) rfl))) Via.refl e0 FN (hb hby own_d_jdk_45_method_7_code_1) rfl ?_
  intro T1 X1 e1
  refine own_aloadN X1 hx (hb hby own_d_jdk_45_method_7_code_4) rfl rfl rfl ?_
  refine own_getF X1 hx hZ hown (host := "") (Or.inl (hw _ (List.mem_of_getElem? (i := 144) rfl))) Via.refl e1 FN (hb hby own_d_jdk_45_method_7_code_5) rfl ?_
  intro T2 X2 e2
  refine own_arraylength X2 hx hZ e2 VE (hb hby own_d_jdk_45_method_7_code_8) rfl ?_
  refine own_static X2 hx hZ (y := (⟨"java/util/Arrays", "copyOf", "([Ljava/lang/Object;I)[Ljava/lang/Object;"⟩ : MethodName)) hown (hw _ (List.mem_of_getElem? (i := 186) rfl)) (hw _ (List.mem_of_getElem? (i := 187) rfl)) (hw _ (List.mem_of_getElem? (i := 188) rfl)) (hw _ (List.mem_of_getElem? (i := 189) rfl)) (by decide) e2 (by decide) (W := 0) (by decide) (by decide) (by decide) [(.ref c1), (.int (0 : Int32))] [] (by rw [hml]; rfl) (own_cp2 l Z a0 hw c1 mr _ h0 n0 O0 M VE OA) own_pd19 rfl rfl rfl (hb hby own_d_jdk_45_method_7_code_9) rfl ?_
  intro v3 T3 L3 X3 hQ3
  obtain ⟨b3, k3, rfl, Nq3, Kq3, g_b3, sz_b3, V3⟩ := hQ3
  have sz_b3 := Nat.le_trans K0.1 sz_b3
  have N3 := Fr.app N0 Nq3
  have K4 := K0.trans Kq3 all0
  show own_Ends p e below _ (T3.setTop (mkF m 12 #[.val (.ref nl)] [(.ref b3)]))
  exact own_retA X3 hx hlocks hret rfl rfl (hb hby own_d_jdk_45_method_7_code_12) (by decide) (by decide) ⟨b3, _, rfl, N3, by exact ⟨K4, g_b3, sz_b3, V3⟩⟩
set_option maxRecDepth 65536 in
set_option maxHeartbeats 40000000 in
theorem own_lnS (l : Launch) (Z : State) (a0 : Array Value) (hw : ∀ d ∈ tables_1, d.before a0 Z = true) (nl c1 : Addr) (kc : ClassId) (h0 : Heap) (n0 : Nat) (VE : Arv Z h0 c1 kc (.object "java/lang/Object") (0 : Int32) [] .null) (OA : Z.vm.findClass "[Ljava/lang/Object;" = some kc) (FN : Fld Z h0 nl "java/util/ImmutableCollections$ListN" "elements" "[Ljava/lang/Object;" (.ref c1)) :
    own_Met l (⟨"java/util/ImmutableCollections$ListN", "size", "()I"⟩ : MethodName) jdk_45_method_3_code 1 (some .int) ({ frames := 0, cells := 0, slots := 0, locals := 0 } : Room) Z #[(.ref nl)] h0 (fun v h L => v = some (.int (0 : Int32)) ∧ Fr n0 L ∧ h = h0) := by
  refine own_met (plainFor_of_name own_pn_java_util_ImmutableCollections_ListN) ?_
  intro p e s m below meth c T0 hx hby hml hZ hown hnm hret hlocks X0 e0 hh0
  have ef : entryFrame m #[(.ref nl)] 1 = mkF m 0 #[.val (.ref nl)] [] := by first | (simp [entryFrame, mkF, argsToLocals, Value.category]; done) | rfl
  refine own_entry ef ?_
  have N0 := Fr.nil n0
  refine own_aloadN X0 hx (hb hby own_d_jdk_45_method_3_code_0) rfl rfl rfl ?_
  refine own_getF X0 hx hZ hown (host := "") (Or.inl (hw _ (List.mem_of_getElem? (i := 144) rfl))) Via.refl e0 FN (hb hby own_d_jdk_45_method_3_code_1) rfl ?_
  intro T1 X1 e1
  refine own_arraylength X1 hx hZ e1 VE (hb hby own_d_jdk_45_method_3_code_4) rfl ?_
  exact own_retI X1 hx hlocks hret (hb hby own_d_jdk_45_method_3_code_5) (by decide) (by decide) ⟨rfl, N0, e1⟩
set_option maxRecDepth 65536 in
set_option maxHeartbeats 40000000 in
theorem own_addA (l : Launch) (Z : State) (a0 : Array Value) (hw : ∀ d ∈ tables_1, d.before a0 Z = true) (a1 ed nl : Addr) (mc : Int32) (c1 mr : Addr) (kc : ClassId) (h0 : Heap) (n0 : Nat) (O0 : Old Z n0 h0) (M : own_Mir Z "[Ljava/lang/Object;" mr) (VE : Arv Z h0 c1 kc (.object "java/lang/Object") (0 : Int32) [] .null) (OA : Z.vm.findClass "[Ljava/lang/Object;" = some kc) (FN : Fld Z h0 nl "java/util/ImmutableCollections$ListN" "elements" "[Ljava/lang/Object;" (.ref c1)) (EN : Exa Z h0 nl "java/util/ImmutableCollections$ListN") (g_a1 : n0 ≤ a1) (L0 : own_AL Z h0 a1 ed mc 0) :
    own_Met l (⟨"java/util/ArrayList", "addAll", "(Ljava/util/Collection;)Z"⟩ : MethodName) jdk_38_method_41_code 6 (some .boolean) ({ frames := 4, cells := 1, slots := 0, locals := 58 } : Room) Z #[(.ref a1), (.ref nl)] h0 (fun v h L => v = some (.int (0 : Int32)) ∧ Fr n0 L ∧ Keep h0 h [a1] ∧ own_AL Z h a1 ed (mc + (1 : Int32)) 0) := by
  refine own_met (plainFor_of_name own_pn_java_util_ArrayList) ?_
  intro p e s m below meth c T0 hx hby hml hZ hown hnm hret hlocks X0 e0 hh0
  have ef : entryFrame m #[(.ref a1), (.ref nl)] 6 = mkF m 0 #[.val (.ref a1), .val (.ref nl), .unset, .unset, .unset, .unset] [] := by first | (simp [entryFrame, mkF, argsToLocals, Value.category]; done) | rfl
  refine own_entry ef ?_
  have N0 := Fr.nil n0
  have K0 := Keep.refl h0 [a1]
  obtain ⟨El0, Ml0, Dl0, Sl0⟩ := L0
  refine own_aloadN X0 hx (hb hby own_d_jdk_38_method_41_code_0) rfl rfl rfl ?_
  refine own_iface X0 hx hZ (xi := (⟨"java/util/Collection", "toArray", "()[Ljava/lang/Object;"⟩ : MethodName)) (y := (⟨"java/util/ImmutableCollections$ListN", "toArray", "()[Ljava/lang/Object;"⟩ : MethodName)) hown (hw _ (List.mem_of_getElem? (i := 177) rfl)) (hw _ (List.mem_of_getElem? (i := 178) rfl)) (mvT hZ (hw _ (List.mem_of_getElem? (i := 179) rfl))) (hw _ (List.mem_of_getElem? (i := 180) rfl)) (hw _ (List.mem_of_getElem? (i := 181) rfl)) (hw _ (List.mem_of_getElem? (i := 182) rfl)) (hw _ (List.mem_of_getElem? (i := 183) rfl)) (hw _ (List.mem_of_getElem? (i := 184) rfl)) (hw _ (List.mem_of_getElem? (i := 142) rfl)) (hw _ (List.mem_of_getElem? (i := 185) rfl)) (by decide) e0 (by decide) (W := 0) (by decide) (by decide) (by decide) [] [] (by rw [hml]; rfl) EN (own_lnA l Z a0 hw nl c1 mr _ h0 n0 O0 M VE OA FN) own_pd20 rfl rfl rfl (hb hby own_d_jdk_38_method_41_code_1) rfl ?_
  intro v1 T1 L1 X1 hQ1
  obtain ⟨b1, k1, rfl, Nq1, Kq1, g_b1, sz_b1, V1⟩ := hQ1
  have sz_b1 := Nat.le_trans K0.1 sz_b1
  have N1 := Fr.app N0 Nq1
  have K2 := K0.trans Kq1 all0
  show own_Ends p e below _ (T1.setTop (mkF m 6 #[.val (.ref a1), .val (.ref nl), .unset, .unset, .unset, .unset] [(.ref b1)]))
  refine own_astoreN X1 hx #[.val (.ref a1), .val (.ref nl), .val (.ref b1), .unset, .unset, .unset] (hb hby own_d_jdk_38_method_41_code_6) rfl rfl rfl ?_
  refine own_aloadN X1 hx (hb hby own_d_jdk_38_method_41_code_7) rfl rfl rfl ?_
  refine own_dup X1 hx (hb hby own_d_jdk_38_method_41_code_8) rfl rfl ?_
  have f3 := (Ml0.keep Kq1 nin0)
  refine own_getF X1 hx hZ hown (host := "") (Or.inl (hw _ (List.mem_of_getElem? (i := 206) rfl))) (Via.of (hw _ (List.mem_of_getElem? (i := 207) rfl))) rfl f3 (hb hby own_d_jdk_38_method_41_code_9) rfl ?_
  intro T4 X4 e4
  refine own_iconst X4 hx (1 : Int32) (hb hby own_d_jdk_38_method_41_code_12) (by decide) rfl ?_
  refine own_iadd X4 hx (hb hby own_d_jdk_38_method_41_code_13) rfl ?_
  have f5 := (El0.keep Kq1)
  refine own_putF X4 hx hZ hown (host := "") (Or.inl (hw _ (List.mem_of_getElem? (i := 206) rfl))) (Via.of (hw _ (List.mem_of_getElem? (i := 207) rfl))) e4 f3 f5 (Or.inl (hw _ (List.mem_of_getElem? (i := 163) rfl))) (hw _ (List.mem_of_getElem? (i := 130) rfl)) (ty := .int) (by decide) rfl rfl N1 g_a1 (hb hby own_d_jdk_38_method_41_code_14) rfl ?_
  intro T6 h6 X6 e6 W6 N6
  have K7 := K2.wr W6 (Or.inl (List.mem_of_getElem? (i := 0) rfl))
  have f8 := f3.same W6
  refine own_aloadN X6 hx (hb hby own_d_jdk_38_method_41_code_17) rfl rfl rfl ?_
  have f9 := (V1.other W6 (Ne.symm (Exa.neArv f5 V1 (hw _ (List.mem_of_getElem? (i := 130) rfl)))))
  refine own_arraylength X6 hx hZ e6 f9 (hb hby own_d_jdk_38_method_41_code_18) rfl ?_
  refine own_istoreN X6 hx #[.val (.ref a1), .val (.ref nl), .val (.ref b1), .val (.int (0 : Int32)), .unset, .unset] (hb hby own_d_jdk_38_method_41_code_19) rfl rfl ?_
  refine own_iloadN X6 hx (hb hby own_d_jdk_38_method_41_code_20) rfl rfl ?_
  refine own_ifF X6 hx (hb hby own_d_jdk_38_method_41_code_21) rfl (by decide) ?_
  refine own_iconst X6 hx (0 : Int32) (hb hby own_d_jdk_38_method_41_code_24) (by decide) rfl ?_
  have f10 := (f5.wr W6)
  have f11 := ((Dl0.keep Kq1 nin0).other W6 (Or.inr (slot_ne (Or.inl (hw _ (List.mem_of_getElem? (i := 167) rfl))) (Or.inl (hw _ (List.mem_of_getElem? (i := 163) rfl))) (by decide) (t := (.array (.object "java/lang/Object"))) (t' := .int) (by decide) (by decide))))
  have f12 := ((Sl0.keep Kq1 nin0).other W6 (Or.inr (slot_ne (Or.inl (hw _ (List.mem_of_getElem? (i := 217) rfl))) (Or.inl (hw _ (List.mem_of_getElem? (i := 163) rfl))) (by decide) (t := .int) (t' := .int) (by decide) (by decide))))
  exact own_retN X6 hx hlocks hret (by simp) (hb hby own_d_jdk_38_method_41_code_25) (by decide) (by decide) (by decide) ⟨rfl, N6, by rw [e6]; exact ⟨K7, ⟨f10, f8, f11, f12⟩⟩⟩
set_option maxRecDepth 65536 in
set_option maxHeartbeats 40000000 in
theorem own_add3 (l : Launch) (Z : State) (a0 : Array Value) (hw : ∀ d ∈ tables_1, d.before a0 Z = true) (a1 el1 ed : Addr) (ke : ClassId) (mc : Int32) (h0 : Heap) (n0 : Nat) (g_a1 : n0 ≤ a1) (g_ed : n0 ≤ ed) (L0 : own_AL Z h0 a1 ed mc 0) (V0 : Arv Z h0 ed ke (.object "java/lang/Object") (1 : Int32) [.null] .null) (Ov0 : own_OE Z ke) (I0 : Ins Z h0 el1 "java/lang/Object" true) :
    own_Met l (⟨"java/util/ArrayList", "add", "(Ljava/lang/Object;[Ljava/lang/Object;I)V"⟩ : MethodName) jdk_38_method_24_code 4 none ({ frames := 0, cells := 0, slots := 0, locals := 0 } : Room) Z #[(.ref a1), (.ref el1), (.ref ed), (.int (0 : Int32))] h0 (fun v h L => v = none ∧ Fr n0 L ∧ Keep h0 h [a1, ed] ∧ own_AL Z h a1 ed mc 1 ∧ Arv Z h ed ke (.object "java/lang/Object") (1 : Int32) [.ref el1] .null) := by
  refine own_met (plainFor_of_name own_pn_java_util_ArrayList) ?_
  intro p e s m below meth c T0 hx hby hml hZ hown hnm hret hlocks X0 e0 hh0
  have ef : entryFrame m #[(.ref a1), (.ref el1), (.ref ed), (.int (0 : Int32))] 4 = mkF m 0 #[.val (.ref a1), .val (.ref el1), .val (.ref ed), .val (.int (0 : Int32))] [] := by first | (simp [entryFrame, mkF, argsToLocals, Value.category]; done) | rfl
  refine own_entry ef ?_
  have N0 := Fr.nil n0
  have K0 := Keep.refl h0 [a1, ed]
  obtain ⟨El0, Ml0, Dl0, Sl0⟩ := L0
  refine own_iloadN X0 hx (hb hby own_d_jdk_38_method_24_code_0) rfl rfl ?_
  refine own_aloadN X0 hx (hb hby own_d_jdk_38_method_24_code_1) rfl rfl rfl ?_
  refine own_arraylength X0 hx hZ e0 V0 (hb hby own_d_jdk_38_method_24_code_2) rfl ?_
  refine own_icmpT X0 hx (hb hby own_d_jdk_38_method_24_code_3) (by decide) rfl (by decide) ?_
  refine own_aloadN X0 hx (hb hby own_d_jdk_38_method_24_code_11) rfl rfl rfl ?_
  refine own_iloadN X0 hx (hb hby own_d_jdk_38_method_24_code_12) rfl rfl ?_
  refine own_aloadN X0 hx (hb hby own_d_jdk_38_method_24_code_13) rfl rfl rfl ?_
  refine own_stR X0 hx hZ e0 V0 rfl rfl (own_sto V0 Ov0.1 I0) ⟨by decide, by decide⟩ 0 rfl (Nat.le_of_ble_eq_true rfl) N0 g_ed (hb hby own_d_jdk_38_method_24_code_14) rfl ?_
  intro T1 h1 X1 e1 W1 N1 V1
  have K2 := K0.wr W1 (Or.inl (List.mem_of_getElem? (i := 1) rfl))
  refine own_aloadN X1 hx (hb hby own_d_jdk_38_method_24_code_15) rfl rfl rfl ?_
  refine own_iloadN X1 hx (hb hby own_d_jdk_38_method_24_code_16) rfl rfl ?_
  refine own_iconst X1 hx (1 : Int32) (hb hby own_d_jdk_38_method_24_code_17) (by decide) rfl ?_
  refine own_iadd X1 hx (hb hby own_d_jdk_38_method_24_code_18) rfl ?_
  rw [show ((0 : Int32) + (1 : Int32)) = (1 : Int32) from by decide]
  have f3 := (Sl0.other W1 (Or.inl (Exa.neArv El0 V0 (hw _ (List.mem_of_getElem? (i := 130) rfl)))))
  have f4 := (El0.wr W1)
  refine own_putF X1 hx hZ hown (host := "") (Or.inl (hw _ (List.mem_of_getElem? (i := 216) rfl))) Via.refl e1 f3 f4 (Or.inl (hw _ (List.mem_of_getElem? (i := 217) rfl))) (hw _ (List.mem_of_getElem? (i := 130) rfl)) (ty := .int) (by decide) rfl rfl N1 g_a1 (hb hby own_d_jdk_38_method_24_code_19) rfl ?_
  intro T5 h5 X5 e5 W5 N5
  have K6 := K2.wr W5 (Or.inl (List.mem_of_getElem? (i := 0) rfl))
  have f7 := f3.same W5
  have f8 := (f4.wr W5)
  have f9 := ((Ml0.other W1 (Or.inl (Exa.neArv El0 V0 (hw _ (List.mem_of_getElem? (i := 130) rfl))))).other W5 (Or.inr (slot_ne (Or.inl (hw _ (List.mem_of_getElem? (i := 163) rfl))) (Or.inl (hw _ (List.mem_of_getElem? (i := 217) rfl))) (by decide) (t := .int) (t' := .int) (by decide) (by decide))))
  have f10 := ((Dl0.other W1 (Or.inl (Exa.neArv El0 V0 (hw _ (List.mem_of_getElem? (i := 130) rfl))))).other W5 (Or.inr (slot_ne (Or.inl (hw _ (List.mem_of_getElem? (i := 167) rfl))) (Or.inl (hw _ (List.mem_of_getElem? (i := 217) rfl))) (by decide) (t := (.array (.object "java/lang/Object"))) (t' := .int) (by decide) (by decide))))
  have f11 := (V1.other W5 (Ne.symm (Exa.neArv El0 V0 (hw _ (List.mem_of_getElem? (i := 130) rfl)))))
  exact own_ret X5 hx hlocks hret (hb hby own_d_jdk_38_method_24_code_22) (by decide) (by decide) ⟨rfl, N5, by rw [e5]; exact ⟨K6, ⟨f8, f9, f10, f7⟩, f11⟩⟩
set_option maxRecDepth 65536 in
set_option maxHeartbeats 40000000 in
theorem own_add1 (l : Launch) (Z : State) (a0 : Array Value) (hw : ∀ d ∈ tables_1, d.before a0 Z = true) (a1 el1 ed : Addr) (ke : ClassId) (mc : Int32) (h0 : Heap) (n0 : Nat) (g_a1 : n0 ≤ a1) (g_ed : n0 ≤ ed) (L0 : own_AL Z h0 a1 ed mc 0) (V0 : Arv Z h0 ed ke (.object "java/lang/Object") (1 : Int32) [.null] .null) (Ov0 : own_OE Z ke) (I0 : Ins Z h0 el1 "java/lang/Object" true) :
    own_Met l (⟨"java/util/ArrayList", "add", "(Ljava/lang/Object;)Z"⟩ : MethodName) jdk_38_method_25_code 2 (some .boolean) ({ frames := 1, cells := 0, slots := 0, locals := 15 } : Room) Z #[(.ref a1), (.ref el1)] h0 (fun v h L => v = some (.int 1) ∧ Fr n0 L ∧ Keep h0 h [a1, ed] ∧ own_AL Z h a1 ed (mc + (1 : Int32)) 1 ∧ Arv Z h ed ke (.object "java/lang/Object") (1 : Int32) [.ref el1] .null) := by
  refine own_met (plainFor_of_name own_pn_java_util_ArrayList) ?_
  intro p e s m below meth c T0 hx hby hml hZ hown hnm hret hlocks X0 e0 hh0
  have ef : entryFrame m #[(.ref a1), (.ref el1)] 2 = mkF m 0 #[.val (.ref a1), .val (.ref el1)] [] := by first | (simp [entryFrame, mkF, argsToLocals, Value.category]; done) | rfl
  refine own_entry ef ?_
  have N0 := Fr.nil n0
  have K0 := Keep.refl h0 [a1, ed]
  obtain ⟨El0, Ml0, Dl0, Sl0⟩ := L0
  refine own_aloadN X0 hx (hb hby own_d_jdk_38_method_25_code_0) rfl rfl rfl ?_
  refine own_dup X0 hx (hb hby own_d_jdk_38_method_25_code_1) rfl rfl ?_
  refine own_getF X0 hx hZ hown (host := "") (Or.inl (hw _ (List.mem_of_getElem? (i := 206) rfl))) (Via.of (hw _ (List.mem_of_getElem? (i := 207) rfl))) e0 Ml0 (hb hby own_d_jdk_38_method_25_code_2) rfl ?_
  intro T1 X1 e1
  refine own_iconst X1 hx (1 : Int32) (hb hby own_d_jdk_38_method_25_code_5) (by decide) rfl ?_
  refine own_iadd X1 hx (hb hby own_d_jdk_38_method_25_code_6) rfl ?_
  refine own_putF X1 hx hZ hown (host := "") (Or.inl (hw _ (List.mem_of_getElem? (i := 206) rfl))) (Via.of (hw _ (List.mem_of_getElem? (i := 207) rfl))) e1 Ml0 El0 (Or.inl (hw _ (List.mem_of_getElem? (i := 163) rfl))) (hw _ (List.mem_of_getElem? (i := 130) rfl)) (ty := .int) (by decide) rfl rfl N0 g_a1 (hb hby own_d_jdk_38_method_25_code_7) rfl ?_
  intro T2 h2 X2 e2 W2 N2
  have K3 := K0.wr W2 (Or.inl (List.mem_of_getElem? (i := 0) rfl))
  have f4 := Ml0.same W2
  refine own_aloadN X2 hx (hb hby own_d_jdk_38_method_25_code_10) rfl rfl rfl ?_
  refine own_aloadN X2 hx (hb hby own_d_jdk_38_method_25_code_11) rfl rfl rfl ?_
  refine own_aloadN X2 hx (hb hby own_d_jdk_38_method_25_code_12) rfl rfl rfl ?_
  have f5 := (Dl0.other W2 (Or.inr (slot_ne (Or.inl (hw _ (List.mem_of_getElem? (i := 167) rfl))) (Or.inl (hw _ (List.mem_of_getElem? (i := 163) rfl))) (by decide) (t := (.array (.object "java/lang/Object"))) (t' := .int) (by decide) (by decide))))
  refine own_getF X2 hx hZ hown (host := "") (Or.inl (hw _ (List.mem_of_getElem? (i := 166) rfl))) Via.refl e2 f5 (hb hby own_d_jdk_38_method_25_code_13) rfl ?_
  intro T6 X6 e6
  refine own_aloadN X6 hx (hb hby own_d_jdk_38_method_25_code_16) rfl rfl rfl ?_
  have f7 := (Sl0.other W2 (Or.inr (slot_ne (Or.inl (hw _ (List.mem_of_getElem? (i := 217) rfl))) (Or.inl (hw _ (List.mem_of_getElem? (i := 163) rfl))) (by decide) (t := .int) (t' := .int) (by decide) (by decide))))
  refine own_getF X6 hx hZ hown (host := "") (Or.inl (hw _ (List.mem_of_getElem? (i := 216) rfl))) Via.refl e6 f7 (hb hby own_d_jdk_38_method_25_code_17) rfl ?_
  intro T8 X8 e8
  have f9 := (El0.wr W2)
  have f10 := (V0.other W2 (Ne.symm (Exa.neArv El0 V0 (hw _ (List.mem_of_getElem? (i := 130) rfl)))))
  have f11 := (I0.wr W2)
  refine own_private X8 hx hZ (y := (⟨"java/util/ArrayList", "add", "(Ljava/lang/Object;[Ljava/lang/Object;I)V"⟩ : MethodName)) hown (hw _ (List.mem_of_getElem? (i := 218) rfl)) (own_nf (z := (⟨"java/util/ArrayList", "addAll", "(Ljava/util/Collection;)Z"⟩ : MethodName)) hZ (hw _ (List.mem_of_getElem? (i := 171) rfl))) (hw _ (List.mem_of_getElem? (i := 219) rfl)) (hw _ (List.mem_of_getElem? (i := 220) rfl)) (hw _ (List.mem_of_getElem? (i := 131) rfl)) (hw _ (List.mem_of_getElem? (i := 222) rfl)) (by decide) e8 (by decide) (W := 0) (by decide) (by decide) (by decide) [(.ref el1), (.ref ed), (.int (0 : Int32))] [] (by rw [hml]; rfl) f9 (own_add3 l Z a0 hw a1 el1 ed ke (mc + (1 : Int32)) h2 n0 g_a1 g_ed ⟨f9, f4, f5, f7⟩ f10 Ov0 f11) own_pd21 rfl rfl rfl (hb hby own_d_jdk_38_method_25_code_20) rfl ?_
  intro v12 T12 L12 X12 hQ12
  obtain ⟨rfl, Nq12, Kq12, Al12, V12⟩ := hQ12
  have N12 := Fr.app N2 Nq12
  have K13 := K3.trans Kq12 (allS (Or.inl (List.mem_of_getElem? (i := 0) rfl)) (allS (Or.inl (List.mem_of_getElem? (i := 1) rfl)) all0))
  obtain ⟨El12, Ml12, Dl12, Sl12⟩ := Al12
  show own_Ends p e below _ (T12.setTop (mkF m 23 #[.val (.ref a1), .val (.ref el1)] []))
  refine own_iconst X12 hx (1 : Int32) (hb hby own_d_jdk_38_method_25_code_23) (by decide) rfl ?_
  exact own_retN X12 hx hlocks hret (by simp) (hb hby own_d_jdk_38_method_25_code_24) (by decide) (by decide) (by decide) ⟨rfl, N12, by exact ⟨K13, ⟨El12, Ml12, Dl12, Sl12⟩, V12⟩⟩
set_option maxRecDepth 65536 in
set_option maxHeartbeats 40000000 in
theorem own_aicI (l : Launch) (Z : State) (a0 : Array Value) (hw : ∀ d ∈ tables_1, d.before a0 Z = true) (a1 : Addr) (h0 : Heap) (n0 : Nat)  :
    own_Met l (⟨"java/util/ImmutableCollections$AbstractImmutableCollection", "<init>", "()V"⟩ : MethodName) jdk_47_method_1_code 1 none ({ frames := 2, cells := 0, slots := 0, locals := 24 } : Room) Z #[(.ref a1)] h0 (fun v h L => v = none ∧ Fr n0 L ∧ h = h0) := by
  refine own_met (plainFor_of_name own_pn_java_util_ImmutableCollections_AbstractImmutableCollection) ?_
  intro p e s m below meth c T0 hx hby hml hZ hown hnm hret hlocks X0 e0 hh0
  have ef : entryFrame m #[(.ref a1)] 1 = mkF m 0 #[.val (.ref a1)] [] := by first | (simp [entryFrame, mkF, argsToLocals, Value.category]; done) | rfl
  refine own_entry ef ?_
  have N0 := Fr.nil n0
  refine own_aloadN X0 hx (hb hby own_d_jdk_47_method_1_code_0) rfl rfl rfl ?_
  refine own_special X0 hx hZ (y := (⟨"java/util/AbstractCollection", "<init>", "()V"⟩ : MethodName)) rfl hown (hw _ (List.mem_of_getElem? (i := 284) rfl)) (hw _ (List.mem_of_getElem? (i := 156) rfl)) (hw _ (List.mem_of_getElem? (i := 159) rfl)) (hw _ (List.mem_of_getElem? (i := 160) rfl)) (by decide) e0 (by decide) (W := 0) (by decide) (by decide) (by decide) [] [] (by rw [hml]; rfl) (a := a1) (own_aci l Z a0 hw a1 h0 n0) own_pd17 rfl rfl rfl (hb hby own_d_jdk_47_method_1_code_1) rfl ?_
  intro v1 T1 L1 X1 hQ1
  obtain ⟨rfl, Nq1, hh1⟩ := hQ1
  have N1 := Fr.app N0 Nq1
  show own_Ends p e below _ (T1.setTop (mkF m 4 #[.val (.ref a1)] []))
  exact own_ret X1 hx hlocks hret (hb hby own_d_jdk_47_method_1_code_4) (by decide) (by decide) ⟨rfl, N1, hh1⟩
set_option maxRecDepth 65536 in
set_option maxHeartbeats 40000000 in
theorem own_ailI (l : Launch) (Z : State) (a0 : Array Value) (hw : ∀ d ∈ tables_1, d.before a0 Z = true) (a1 : Addr) (h0 : Heap) (n0 : Nat)  :
    own_Met l (⟨"java/util/ImmutableCollections$AbstractImmutableList", "<init>", "()V"⟩ : MethodName) jdk_46_method_1_code 1 none ({ frames := 3, cells := 0, slots := 0, locals := 36 } : Room) Z #[(.ref a1)] h0 (fun v h L => v = none ∧ Fr n0 L ∧ h = h0) := by
  refine own_met (plainFor_of_name own_pn_java_util_ImmutableCollections_AbstractImmutableList) ?_
  intro p e s m below meth c T0 hx hby hml hZ hown hnm hret hlocks X0 e0 hh0
  have ef : entryFrame m #[(.ref a1)] 1 = mkF m 0 #[.val (.ref a1)] [] := by first | (simp [entryFrame, mkF, argsToLocals, Value.category]; done) | rfl
  refine own_entry ef ?_
  have N0 := Fr.nil n0
  refine own_aloadN X0 hx (hb hby own_d_jdk_46_method_1_code_0) rfl rfl rfl ?_
  refine own_special X0 hx hZ (y := (⟨"java/util/ImmutableCollections$AbstractImmutableCollection", "<init>", "()V"⟩ : MethodName)) rfl hown (hw _ (List.mem_of_getElem? (i := 278) rfl)) (hw _ (List.mem_of_getElem? (i := 279) rfl)) (hw _ (List.mem_of_getElem? (i := 282) rfl)) (hw _ (List.mem_of_getElem? (i := 283) rfl)) (by decide) e0 (by decide) (W := 0) (by decide) (by decide) (by decide) [] [] (by rw [hml]; rfl) (a := a1) (own_aicI l Z a0 hw a1 h0 n0) own_pd17 rfl rfl rfl (hb hby own_d_jdk_46_method_1_code_1) rfl ?_
  intro v1 T1 L1 X1 hQ1
  obtain ⟨rfl, Nq1, hh1⟩ := hQ1
  have N1 := Fr.app N0 Nq1
  show own_Ends p e below _ (T1.setTop (mkF m 4 #[.val (.ref a1)] []))
  exact own_ret X1 hx hlocks hret (hb hby own_d_jdk_46_method_1_code_4) (by decide) (by decide) ⟨rfl, N1, hh1⟩
theorem own_not12 {Z : State} {a0 : Array Value} (hw : ∀ d ∈ tables_1, d.before a0 Z = true) : ∃ c t, Z.vm.findClass "java/util/ArrayList" = some c ∧ Z.vm.findClass "java/util/ImmutableCollections$List12" = some t ∧ Z.vm.assignable c t = false := by
  obtain ⟨t, kt, i1, i2, i3, i4, -, -⟩ := Cond.instantiable_spec (hw _ (List.mem_of_getElem? (i := 266) rfl))
  have i4' : kt.isInterface = false := (Bool.or_eq_false_iff.mp i4).1
  have root : NS Z "java/lang/Object" "java/util/ImmutableCollections$List12" := by
    obtain ⟨c, k, h1, h2, h3, -, -⟩ := Cond.noSuperclass_spec (hw _ (List.mem_of_getElem? (i := 244) rfl))
    have ne := ids_ne h1 i1 (by decide)
    refine ⟨c, t, h1, i1, fun fuel => ?_⟩
    cases fuel with
    | zero => rfl
    | succ f => simp [Vm.isSubclassAux, ne, h2, h3]
  have w1 := (hw _ (List.mem_of_getElem? (i := 241) rfl))
  obtain ⟨c, t', h0, g0, n3⟩ := NS.step w1 (NS.step (hw _ (List.mem_of_getElem? (i := 242) rfl)) (NS.step (hw _ (List.mem_of_getElem? (i := 243) rfl)) root (by decide)) (by decide)) (by decide)
  cases g0.symm.trans i1
  obtain ⟨p, k, kp, h1, h2, h3, h4, h5, -, h7⟩ := Cond.superclass_spec h0 w1
  have ne := ids_ne h0 g0 (by decide)
  exact ⟨c, _, h0, g0, by show Z.vm.assignableAux (255 + 1) c _ = false; simp [Vm.assignableAux, ne, h2, i2, h5, i3, i4', Vm.isSubclass, n3]⟩
theorem own_notN {Z : State} {a0 : Array Value} (hw : ∀ d ∈ tables_1, d.before a0 Z = true) : ∃ c t, Z.vm.findClass "java/util/ArrayList" = some c ∧ Z.vm.findClass "java/util/ImmutableCollections$ListN" = some t ∧ Z.vm.assignable c t = false := by
  obtain ⟨c0, r0, m0, -, -, q3, -, kt, i2, i4'⟩ := Cond.selects_spec (hw _ (List.mem_of_getElem? (i := 137) rfl))
  have i1 : Z.vm.findClass "java/util/ImmutableCollections$ListN" = some m0.cls := findClass_of_methodNamed q3
  have root : NS Z "java/lang/Object" "java/util/ImmutableCollections$ListN" := by
    obtain ⟨c, k, h1, h2, h3, -, -⟩ := Cond.noSuperclass_spec (hw _ (List.mem_of_getElem? (i := 244) rfl))
    have ne := ids_ne h1 i1 (by decide)
    refine ⟨c, m0.cls, h1, i1, fun fuel => ?_⟩
    cases fuel with
    | zero => rfl
    | succ f => simp [Vm.isSubclassAux, ne, h2, h3]
  have w1 := (hw _ (List.mem_of_getElem? (i := 241) rfl))
  obtain ⟨c, t', h0, g0, n3⟩ := NS.step w1 (NS.step (hw _ (List.mem_of_getElem? (i := 242) rfl)) (NS.step (hw _ (List.mem_of_getElem? (i := 243) rfl)) root (by decide)) (by decide)) (by decide)
  cases g0.symm.trans i1
  obtain ⟨p, k, kp, h1, h2, h3, h4, h5, -, h7⟩ := Cond.superclass_spec h0 w1
  have ne := ids_ne h0 g0 (by decide)
  exact ⟨c, _, h0, g0, by show Z.vm.assignableAux (255 + 1) c _ = false; cases qk : kt.kind <;> simp [Vm.assignableAux, ne, h2, i2, h5, qk, i4', Vm.isSubclass, n3]⟩
set_option maxRecDepth 65536 in
set_option maxHeartbeats 40000000 in
theorem own_alE1 (l : Launch) (Z : State) (a0 : Array Value) (hw : ∀ d ∈ tables_1, d.before a0 Z = true) (a1 : Addr) (h0 : Heap) (n0 : Nat) (F1 : Fld Z h0 a1 "java/util/ArrayList" "size" "I" (.int (1 : Int32))) :
    own_Met l (⟨"java/util/ArrayList", "isEmpty", "()Z"⟩ : MethodName) jdk_38_method_9_code 1 (some .boolean) ({ frames := 0, cells := 0, slots := 0, locals := 0 } : Room) Z #[(.ref a1)] h0 (fun v h L => v = some (.int (0 : Int32)) ∧ Fr n0 L ∧ h = h0) := by
  refine own_met (plainFor_of_name own_pn_java_util_ArrayList) ?_
  intro p e s m below meth c T0 hx hby hml hZ hown hnm hret hlocks X0 e0 hh0
  have ef : entryFrame m #[(.ref a1)] 1 = mkF m 0 #[.val (.ref a1)] [] := by first | (simp [entryFrame, mkF, argsToLocals, Value.category]; done) | rfl
  refine own_entry ef ?_
  have N0 := Fr.nil n0
  refine own_aloadN X0 hx (hb hby own_d_jdk_38_method_9_code_0) rfl rfl rfl ?_
  refine own_getF X0 hx hZ hown (host := "") (Or.inl (hw _ (List.mem_of_getElem? (i := 216) rfl))) Via.refl e0 F1 (hb hby own_d_jdk_38_method_9_code_1) rfl ?_
  intro T1 X1 e1
  refine own_ifT X1 hx (hb hby own_d_jdk_38_method_9_code_4) (by decide) rfl (by decide) ?_
  refine own_iconst X1 hx (0 : Int32) (hb hby own_d_jdk_38_method_9_code_11) (by decide) rfl ?_
  exact own_retN X1 hx hlocks hret (by simp) (hb hby own_d_jdk_38_method_9_code_12) (by decide) (by decide) (by decide) ⟨rfl, N0, e1⟩
set_option maxRecDepth 65536 in
set_option maxHeartbeats 40000000 in
theorem own_cp3_1 (l : Launch) (Z : State) (a0 : Array Value) (hw : ∀ d ∈ tables_1, d.before a0 Z = true) (c1 mr x0 : Addr) (kc : ClassId) (h0 : Heap) (n0 : Nat) (O0 : Old Z n0 h0) (M : own_Mir Z "[Ljava/lang/Object;" mr) (Ex0 : Exa Z h0 x0 "java/lang/String") (VA : Arv Z h0 c1 kc (.object "java/lang/Object") (1 : Int32) [(.ref x0)] .null) (OA : own_OE Z kc) :
    own_Met l (⟨"java/util/Arrays", "copyOf", "([Ljava/lang/Object;ILjava/lang/Class;)[Ljava/lang/Object;"⟩ : MethodName) jdk_65_method_120_code 4 (some (.array (.object "java/lang/Object"))) ({ frames := 1, cells := 1, slots := 1, locals := 18 } : Room) Z #[(.ref c1), (.int (1 : Int32)), (.ref mr)] h0 (fun v h L => ∃ (b : Addr) (k : ClassId), v = some (.ref b) ∧ Fr n0 L ∧ Keep h0 h [] ∧ n0 ≤ b ∧ h0.size ≤ b ∧ Arv Z h b k (.object "java/lang/Object") (1 : Int32) [(.ref x0)] .null ∧ own_OE Z k) := by
  refine own_met (plainFor_of_name own_pn_java_util_Arrays) ?_
  intro p e s m below meth c T0 hx hby hml hZ hown hnm hret hlocks X0 e0 hh0
  have ef : entryFrame m #[(.ref c1), (.int (1 : Int32)), (.ref mr)] 4 = mkF m 0 #[.val (.ref c1), .val (.int (1 : Int32)), .val (.ref mr), .unset] [] := by first | (simp [entryFrame, mkF, argsToLocals, Value.category]; done) | rfl
  refine own_entry ef ?_
  have N0 := Fr.nil n0
  have K0 := Keep.refl h0 []
  refine own_aloadN X0 hx (hb hby own_d_jdk_65_method_120_code_0) rfl rfl rfl ?_
  refine own_ldcM X0 hx hZ hown (hw _ (List.mem_of_getElem? (i := 199) rfl)) M e0 (hb hby own_d_jdk_65_method_120_code_1) rfl ?_
  intro T1 X1 e1
  refine own_acmp_ne X1 hx (hb hby own_d_jdk_65_method_120_code_3) (by decide) rfl rfl (fun hc3_2 => absurd rfl hc3_2) (fun hc3_2 => ?_)
  refine own_iloadN X1 hx (hb hby own_d_jdk_65_method_120_code_6) rfl rfl ?_
  refine own_newRE X1 hx hZ hown (hw _ (List.mem_of_getElem? (i := 200) rfl)) (hw _ (List.mem_of_getElem? (i := 165) rfl)) e1 (hb hby own_d_jdk_65_method_120_code_7) (by decide) 1 (by decide) (by decide) (by decide) (by decide) rfl ?_
  intro T3 h3 b3 k3 X3 e3 g3 E3 V3q Ov3
  have g_b3 : n0 ≤ b3 := Nat.le_trans (own_oz O0) (Nat.le_of_eq g3.symm)
  have sz_b3 : h0.size ≤ b3 := Nat.le_trans K0.1 (Nat.le_of_eq g3.symm)
  have K4 := K0.ext E3
  have V3 : Arv Z h3 b3 k3 (.object "java/lang/Object") (1 : Int32) [.null] .null := Arv.pad V3q (pad_rep [] .null 1)
  refine own_goto X3 hx (hb hby own_d_jdk_65_method_120_code_10) (by decide) rfl ?_
  refine own_astoreN X3 hx #[.val (.ref c1), .val (.int (1 : Int32)), .val (.ref mr), .val (.ref b3)] (hb hby own_d_jdk_65_method_120_code_24) rfl rfl rfl ?_
  refine own_aloadN X3 hx (hb hby own_d_jdk_65_method_120_code_25) rfl rfl rfl ?_
  refine own_iconst X3 hx (0 : Int32) (hb hby own_d_jdk_65_method_120_code_26) (by decide) rfl ?_
  refine own_aloadN X3 hx (hb hby own_d_jdk_65_method_120_code_27) rfl rfl rfl ?_
  refine own_iconst X3 hx (0 : Int32) (hb hby own_d_jdk_65_method_120_code_28) (by decide) rfl ?_
  refine own_aloadN X3 hx (hb hby own_d_jdk_65_method_120_code_29) rfl rfl rfl ?_
  have f5 := (VA.ext E3)
  refine own_arraylength X3 hx hZ e3 f5 (hb hby own_d_jdk_65_method_120_code_30) rfl ?_
  refine own_iloadN X3 hx (hb hby own_d_jdk_65_method_120_code_31) rfl rfl ?_
  refine own_static X3 hx hZ (y := (⟨"java/lang/Math", "min", "(II)I"⟩ : MethodName)) hown (hw _ (List.mem_of_getElem? (i := 201) rfl)) (hw _ (List.mem_of_getElem? (i := 124) rfl)) (hw _ (List.mem_of_getElem? (i := 121) rfl)) (hw _ (List.mem_of_getElem? (i := 125) rfl)) (by decide) e3 (by decide) (W := 4) (by decide) (by decide) (by decide) [(.int (1 : Int32)), (.int (1 : Int32))] [(.int (0 : Int32)), (.ref b3), (.int (0 : Int32)), (.ref c1)] (by rw [hml]; rfl) (own_min11 l Z a0 hw h3 n0) own_pd12 rfl rfl rfl (hb hby own_d_jdk_65_method_120_code_32) rfl ?_
  intro v6 T6 L6 X6 hQ6
  obtain ⟨rfl, Nq6, hh6⟩ := hQ6
  have N6 := Fr.app N0 Nq6
  show own_Ends p e below _ (T6.setTop (mkF m 35 #[.val (.ref c1), .val (.int (1 : Int32)), .val (.ref mr), .val (.ref b3)] [(.int (1 : Int32)), (.int (0 : Int32)), (.ref b3), (.int (0 : Int32)), (.ref c1)]))
  have f8 := (Ex0.ext E3)
  refine own_cpA X6 hx hZ hown (hw _ (List.mem_of_getElem? (i := 202) rfl)) (hw _ (List.mem_of_getElem? (i := 205) rfl)) (hw _ (List.mem_of_getElem? (i := 203) rfl)) (hw _ (List.mem_of_getElem? (i := 204) rfl)) hh6 f5 V3 [(.ref x0)] (Or.inr ⟨rfl, rfl, (own_stlS (own_sto V3 Ov3.1 (Ins.of_exa f8 (hw _ (List.mem_of_getElem? (i := 223) rfl)))) own_stl0)⟩) (by decide) (by decide) (by decide) (by decide) (by decide) rfl (Nat.le_of_ble_eq_true rfl) N6 g_b3 (by rw [hml]; rfl) (hb hby own_d_jdk_65_method_120_code_35) (by decide) 0 rfl (by decide) rfl ?_
  intro T7 h7 L7 X7 e7 N7 Kq7 V7q
  have K9 := K4.trans Kq7 (allS (Or.inr sz_b3) all0)
  have V7 : Arv Z h7 b3 _ (.object "java/lang/Object") (1 : Int32) [(.ref x0)] .null := V7q
  refine own_aloadN X7 hx (hb hby own_d_jdk_65_method_120_code_38) rfl rfl rfl ?_
  exact own_retA X7 hx hlocks hret rfl rfl (hb hby own_d_jdk_65_method_120_code_39) (by decide) (by decide) ⟨b3, _, rfl, N7, by rw [e7]; exact ⟨K9, g_b3, sz_b3, V7, Ov3⟩⟩
set_option maxRecDepth 65536 in
set_option maxHeartbeats 40000000 in
theorem own_cp2_1 (l : Launch) (Z : State) (a0 : Array Value) (hw : ∀ d ∈ tables_1, d.before a0 Z = true) (c1 mr x0 : Addr) (kc : ClassId) (h0 : Heap) (n0 : Nat) (O0 : Old Z n0 h0) (M : own_Mir Z "[Ljava/lang/Object;" mr) (Ex0 : Exa Z h0 x0 "java/lang/String") (VA : Arv Z h0 c1 kc (.object "java/lang/Object") (1 : Int32) [(.ref x0)] .null) (OA : own_OE Z kc) :
    own_Met l (⟨"java/util/Arrays", "copyOf", "([Ljava/lang/Object;I)[Ljava/lang/Object;"⟩ : MethodName) jdk_65_method_119_code 2 (some (.array (.object "java/lang/Object"))) ({ frames := 2, cells := 1, slots := 1, locals := 33 } : Room) Z #[(.ref c1), (.int (1 : Int32))] h0 (fun v h L => ∃ (b : Addr) (k : ClassId), v = some (.ref b) ∧ Fr n0 L ∧ Keep h0 h [] ∧ n0 ≤ b ∧ h0.size ≤ b ∧ Arv Z h b k (.object "java/lang/Object") (1 : Int32) [(.ref x0)] .null ∧ own_OE Z k) := by
  refine own_met (plainFor_of_name own_pn_java_util_Arrays) ?_
  intro p e s m below meth c T0 hx hby hml hZ hown hnm hret hlocks X0 e0 hh0
  have ef : entryFrame m #[(.ref c1), (.int (1 : Int32))] 2 = mkF m 0 #[.val (.ref c1), .val (.int (1 : Int32))] [] := by first | (simp [entryFrame, mkF, argsToLocals, Value.category]; done) | rfl
  refine own_entry ef ?_
  have N0 := Fr.nil n0
  have K0 := Keep.refl h0 []
  refine own_aloadN X0 hx (hb hby own_d_jdk_65_method_119_code_0) rfl rfl rfl ?_
  refine own_iloadN X0 hx (hb hby own_d_jdk_65_method_119_code_1) rfl rfl ?_
  refine own_aloadN X0 hx (hb hby own_d_jdk_65_method_119_code_2) rfl rfl rfl ?_
  refine own_gcls X0 hx hZ hown (hw _ (List.mem_of_getElem? (i := 190) rfl)) (hw _ (List.mem_of_getElem? (i := 191) rfl)) (hw _ (List.mem_of_getElem? (i := 244) rfl)) (hw _ (List.mem_of_getElem? (i := 193) rfl)) (hw _ (List.mem_of_getElem? (i := 192) rfl)) (hw _ (List.mem_of_getElem? (i := 194) rfl)) e0 (own_exaOE VA OA) M (by rw [hml]; rfl) (hb hby own_d_jdk_65_method_119_code_3) (by decide) 2 rfl (by decide) rfl ?_
  intro T1 X1 e1
  refine own_static X1 hx hZ (y := (⟨"java/util/Arrays", "copyOf", "([Ljava/lang/Object;ILjava/lang/Class;)[Ljava/lang/Object;"⟩ : MethodName)) hown (hw _ (List.mem_of_getElem? (i := 196) rfl)) (hw _ (List.mem_of_getElem? (i := 197) rfl)) (hw _ (List.mem_of_getElem? (i := 188) rfl)) (hw _ (List.mem_of_getElem? (i := 198) rfl)) (by decide) e1 (by decide) (W := 0) (by decide) (by decide) (by decide) [(.ref c1), (.int (1 : Int32)), (.ref mr)] [] (by rw [hml]; rfl) (own_cp3_1 l Z a0 hw c1 mr x0 _ h0 n0 O0 M Ex0 VA OA) own_pd18 rfl rfl rfl (hb hby own_d_jdk_65_method_119_code_6) rfl ?_
  intro v2 T2 L2 X2 hQ2
  obtain ⟨b2, k2, rfl, Nq2, Kq2, g_b2, sz_b2, V2, OE2⟩ := hQ2
  have sz_b2 := Nat.le_trans K0.1 sz_b2
  have N2 := Fr.app N0 Nq2
  have K3 := K0.trans Kq2 all0
  show own_Ends p e below _ (T2.setTop (mkF m 9 #[.val (.ref c1), .val (.int (1 : Int32))] [(.ref b2)]))
  exact own_retA X2 hx hlocks hret rfl rfl (hb hby own_d_jdk_65_method_119_code_9) (by decide) (by decide) ⟨b2, _, rfl, N2, by exact ⟨K3, g_b2, sz_b2, V2, OE2⟩⟩
set_option maxRecDepth 65536 in
set_option maxHeartbeats 40000000 in
theorem own_toA1 (l : Launch) (Z : State) (a0 : Array Value) (hw : ∀ d ∈ tables_1, d.before a0 Z = true) (a1 : Addr) (c1 mr x0 : Addr) (kc : ClassId) (h0 : Heap) (n0 : Nat) (O0 : Old Z n0 h0) (M : own_Mir Z "[Ljava/lang/Object;" mr) (Ex0 : Exa Z h0 x0 "java/lang/String") (VA : Arv Z h0 c1 kc (.object "java/lang/Object") (1 : Int32) [(.ref x0)] .null) (OA : own_OE Z kc) (F1 : Fld Z h0 a1 "java/util/ArrayList" "elementData" "[Ljava/lang/Object;" (.ref c1)) (F2 : Fld Z h0 a1 "java/util/ArrayList" "size" "I" (.int (1 : Int32))) :
    own_Met l (⟨"java/util/ArrayList", "toArray", "()[Ljava/lang/Object;"⟩ : MethodName) jdk_38_method_16_code 1 (some (.array (.object "java/lang/Object"))) ({ frames := 3, cells := 1, slots := 1, locals := 46 } : Room) Z #[(.ref a1)] h0 (fun v h L => ∃ (b : Addr) (k : ClassId), v = some (.ref b) ∧ Fr n0 L ∧ Keep h0 h [] ∧ n0 ≤ b ∧ h0.size ≤ b ∧ Arv Z h b k (.object "java/lang/Object") (1 : Int32) [(.ref x0)] .null ∧ own_OE Z k) := by
  refine own_met (plainFor_of_name own_pn_java_util_ArrayList) ?_
  intro p e s m below meth c T0 hx hby hml hZ hown hnm hret hlocks X0 e0 hh0
  have ef : entryFrame m #[(.ref a1)] 1 = mkF m 0 #[.val (.ref a1)] [] := by first | (simp [entryFrame, mkF, argsToLocals, Value.category]; done) | rfl
  refine own_entry ef ?_
  have N0 := Fr.nil n0
  have K0 := Keep.refl h0 []
  refine own_aloadN X0 hx (hb hby own_d_jdk_38_method_16_code_0) rfl rfl rfl ?_
  refine own_getF X0 hx hZ hown (host := "") (Or.inl (hw _ (List.mem_of_getElem? (i := 166) rfl))) Via.refl e0 F1 (hb hby own_d_jdk_38_method_16_code_1) rfl ?_
  intro T1 X1 e1
  refine own_aloadN X1 hx (hb hby own_d_jdk_38_method_16_code_4) rfl rfl rfl ?_
  refine own_getF X1 hx hZ hown (host := "") (Or.inl (hw _ (List.mem_of_getElem? (i := 216) rfl))) Via.refl e1 F2 (hb hby own_d_jdk_38_method_16_code_5) rfl ?_
  intro T2 X2 e2
  refine own_static X2 hx hZ (y := (⟨"java/util/Arrays", "copyOf", "([Ljava/lang/Object;I)[Ljava/lang/Object;"⟩ : MethodName)) hown (hw _ (List.mem_of_getElem? (i := 261) rfl)) (hw _ (List.mem_of_getElem? (i := 187) rfl)) (hw _ (List.mem_of_getElem? (i := 188) rfl)) (hw _ (List.mem_of_getElem? (i := 189) rfl)) (by decide) e2 (by decide) (W := 0) (by decide) (by decide) (by decide) [(.ref c1), (.int (1 : Int32))] [] (by rw [hml]; rfl) (own_cp2_1 l Z a0 hw c1 mr x0 _ h0 n0 O0 M Ex0 VA OA) own_pd19 rfl rfl rfl (hb hby own_d_jdk_38_method_16_code_8) rfl ?_
  intro v3 T3 L3 X3 hQ3
  obtain ⟨b3, k3, rfl, Nq3, Kq3, g_b3, sz_b3, V3, OE3⟩ := hQ3
  have sz_b3 := Nat.le_trans K0.1 sz_b3
  have N3 := Fr.app N0 Nq3
  have K4 := K0.trans Kq3 all0
  show own_Ends p e below _ (T3.setTop (mkF m 11 #[.val (.ref a1)] [(.ref b3)]))
  exact own_retA X3 hx hlocks hret rfl rfl (hb hby own_d_jdk_38_method_16_code_11) (by decide) (by decide) ⟨b3, _, rfl, N3, by exact ⟨K4, g_b3, sz_b3, V3, OE3⟩⟩
set_option maxRecDepth 65536 in
set_option maxHeartbeats 40000000 in
theorem own_l12_1 (l : Launch) (Z : State) (a0 : Array Value) (hw : ∀ d ∈ tables_1, d.before a0 Z = true) (a1 x0 : Addr) (eo mr : Addr) (h0 : Heap) (n0 : Nat) (O0 : Old Z n0 h0) (SX : Sta Z Z.heap "java/util/ImmutableCollections" "EMPTY" "Ljava/lang/Object;" (.ref eo)) (XX : Exa Z Z.heap eo "java/lang/Object") (g_a1 : n0 ≤ a1) (E0 : Exa Z h0 a1 "java/util/ImmutableCollections$List12") (F1 : Fld Z h0 a1 "java/util/ImmutableCollections$List12" "e0" "Ljava/lang/Object;" .null) (F2 : Fld Z h0 a1 "java/util/ImmutableCollections$List12" "e1" "Ljava/lang/Object;" .null) :
    own_Met l (⟨"java/util/ImmutableCollections$List12", "<init>", "(Ljava/lang/Object;)V"⟩ : MethodName) jdk_44_method_1_code 2 none ({ frames := 4, cells := 0, slots := 0, locals := 48 } : Room) Z #[(.ref a1), (.ref x0)] h0 (fun v h L => v = none ∧ Fr n0 L ∧ Keep h0 h [a1] ∧ (Exa Z h a1 "java/util/ImmutableCollections$List12" ∧ Fld Z h a1 "java/util/ImmutableCollections$List12" "e0" "Ljava/lang/Object;" (.ref x0) ∧ Fld Z h a1 "java/util/ImmutableCollections$List12" "e1" "Ljava/lang/Object;" (.ref eo))) := by
  refine own_met (plainFor_of_name own_pn_java_util_ImmutableCollections_List12) ?_
  intro p e s m below meth c T0 hx hby hml hZ hown hnm hret hlocks X0 e0 hh0
  have ef : entryFrame m #[(.ref a1), (.ref x0)] 2 = mkF m 0 #[.val (.ref a1), .val (.ref x0)] [] := by first | (simp [entryFrame, mkF, argsToLocals, Value.category]; done) | rfl
  refine own_entry ef ?_
  have N0 := Fr.nil n0
  have K0 := Keep.refl h0 [a1]
  refine own_aloadN X0 hx (hb hby own_d_jdk_44_method_1_code_0) rfl rfl rfl ?_
  refine own_special X0 hx hZ (y := (⟨"java/util/ImmutableCollections$AbstractImmutableList", "<init>", "()V"⟩ : MethodName)) rfl hown (hw _ (List.mem_of_getElem? (i := 272) rfl)) (hw _ (List.mem_of_getElem? (i := 273) rfl)) (hw _ (List.mem_of_getElem? (i := 276) rfl)) (hw _ (List.mem_of_getElem? (i := 277) rfl)) (by decide) e0 (by decide) (W := 0) (by decide) (by decide) (by decide) [] [] (by rw [hml]; rfl) (a := a1) (own_ailI l Z a0 hw a1 h0 n0) own_pd17 rfl rfl rfl (hb hby own_d_jdk_44_method_1_code_1) rfl ?_
  intro v1 T1 L1 X1 hQ1
  obtain ⟨rfl, Nq1, hh1⟩ := hQ1
  have N1 := Fr.app N0 Nq1
  show own_Ends p e below _ (T1.setTop (mkF m 4 #[.val (.ref a1), .val (.ref x0)] []))
  refine own_aloadN X1 hx (hb hby own_d_jdk_44_method_1_code_4) rfl rfl rfl ?_
  refine own_aloadN X1 hx (hb hby own_d_jdk_44_method_1_code_5) rfl rfl rfl ?_
  refine own_static X1 hx hZ (y := (⟨"java/util/Objects", "requireNonNull", "(Ljava/lang/Object;)Ljava/lang/Object;"⟩ : MethodName)) hown (hw _ (List.mem_of_getElem? (i := 286) rfl)) (hw _ (List.mem_of_getElem? (i := 287) rfl)) (hw _ (List.mem_of_getElem? (i := 288) rfl)) (hw _ (List.mem_of_getElem? (i := 289) rfl)) (by decide) hh1 (by decide) (W := 1) (by decide) (by decide) (by decide) [(.ref x0)] [(.ref a1)] (by rw [hml]; rfl) (own_rnn l Z a0 hw x0 h0 n0) own_pd22 rfl rfl rfl (hb hby own_d_jdk_44_method_1_code_6) rfl ?_
  intro v2 T2 L2 X2 hQ2
  obtain ⟨rfl, Nq2, hh2⟩ := hQ2
  have N2 := Fr.app N1 Nq2
  show own_Ends p e below _ (T2.setTop (mkF m 9 #[.val (.ref a1), .val (.ref x0)] [(.ref x0), (.ref a1)]))
  refine own_putF X2 hx hZ hown (host := "") (Or.inl (hw _ (List.mem_of_getElem? (i := 290) rfl))) Via.refl hh2 F1 E0 (Or.inr ⟨(hw _ (List.mem_of_getElem? (i := 291) rfl)), rfl, hnm⟩) (hw _ (List.mem_of_getElem? (i := 266) rfl)) (ty := (.object "java/lang/Object")) (by decide) rfl rfl N2 g_a1 (hb hby own_d_jdk_44_method_1_code_9) rfl ?_
  intro T3 h3 X3 e3 W3 N3
  have K4 := K0.wr W3 (Or.inl (List.mem_of_getElem? (i := 0) rfl))
  have f5 := F1.same W3
  refine own_aloadN X3 hx (hb hby own_d_jdk_44_method_1_code_12) rfl rfl rfl ?_
  have f6 := (O0.wr W3 g_a1)
  refine own_getS X3 hx hZ hown (Or.inr (hw _ (List.mem_of_getElem? (i := 292) rfl))) Via.refl e3 (SX.ext f6.2) (hb hby own_d_jdk_44_method_1_code_13) rfl ?_
  intro T7 X7 e7
  have f8 := (F2.other W3 (Or.inr (slot_ne (Or.inr (hw _ (List.mem_of_getElem? (i := 294) rfl))) (Or.inr (hw _ (List.mem_of_getElem? (i := 291) rfl))) (by decide) (t := (.object "java/lang/Object")) (t' := (.object "java/lang/Object")) (by decide) (by decide))))
  have f9 := (E0.wr W3)
  refine own_putF X7 hx hZ hown (host := "") (Or.inl (hw _ (List.mem_of_getElem? (i := 293) rfl))) Via.refl e7 f8 f9 (Or.inr ⟨(hw _ (List.mem_of_getElem? (i := 294) rfl)), rfl, hnm⟩) (hw _ (List.mem_of_getElem? (i := 266) rfl)) (ty := (.object "java/lang/Object")) (by decide) rfl rfl N3 g_a1 (hb hby own_d_jdk_44_method_1_code_16) rfl ?_
  intro T10 h10 X10 e10 W10 N10
  have K11 := K4.wr W10 (Or.inl (List.mem_of_getElem? (i := 0) rfl))
  have f12 := f8.same W10
  have f13 := (f9.wr W10)
  have f14 := (f5.other W10 (Or.inr (slot_ne (Or.inr (hw _ (List.mem_of_getElem? (i := 291) rfl))) (Or.inr (hw _ (List.mem_of_getElem? (i := 294) rfl))) (by decide) (t := (.object "java/lang/Object")) (t' := (.object "java/lang/Object")) (by decide) (by decide))))
  exact own_ret X10 hx hlocks hret (hb hby own_d_jdk_44_method_1_code_19) (by decide) (by decide) ⟨rfl, N10, by rw [e10]; exact ⟨K11, ⟨f13, f14, f12⟩⟩⟩
set_option maxRecDepth 65536 in
set_option maxHeartbeats 40000000 in
theorem own_ofA1 (l : Launch) (Z : State) (a0 : Array Value) (hw : ∀ d ∈ tables_1, d.before a0 Z = true) (c1 x0 : Addr) (kc : ClassId) (eo mr : Addr) (h0 : Heap) (n0 : Nat) (O0 : Old Z n0 h0) (SX : Sta Z Z.heap "java/util/ImmutableCollections" "EMPTY" "Ljava/lang/Object;" (.ref eo)) (XX : Exa Z Z.heap eo "java/lang/Object") (Ex0 : Exa Z h0 x0 "java/lang/String") (VA : Arv Z h0 c1 kc (.object "java/lang/Object") (1 : Int32) [(.ref x0)] .null) :
    own_Met l (⟨"java/util/List", "of", "([Ljava/lang/Object;)Ljava/util/List;"⟩ : MethodName) jdk_40_method_47_code 2 (some (.object "java/util/List")) ({ frames := 5, cells := 1, slots := 2, locals := 62 } : Room) Z #[(.ref c1)] h0 (fun v h L => ∃ b : Addr, v = some (.ref b) ∧ Fr n0 L ∧ Keep h0 h [] ∧ n0 ≤ b ∧ h0.size ≤ b ∧ (Exa Z h b "java/util/ImmutableCollections$List12" ∧ Fld Z h b "java/util/ImmutableCollections$List12" "e0" "Ljava/lang/Object;" (.ref x0) ∧ Fld Z h b "java/util/ImmutableCollections$List12" "e1" "Ljava/lang/Object;" (.ref eo))) := by
  refine own_met (plainFor_of_name own_pn_java_util_List) ?_
  intro p e s m below meth c T0 hx hby hml hZ hown hnm hret hlocks X0 e0 hh0
  have ef : entryFrame m #[(.ref c1)] 2 = mkF m 0 #[.val (.ref c1), .unset] [] := by first | (simp [entryFrame, mkF, argsToLocals, Value.category]; done) | rfl
  refine own_entry ef ?_
  have N0 := Fr.nil n0
  have K0 := Keep.refl h0 []
  refine own_aloadN X0 hx (hb hby own_d_jdk_40_method_47_code_0) rfl rfl rfl ?_
  refine own_arraylength X0 hx hZ e0 VA (hb hby own_d_jdk_40_method_47_code_1) rfl ?_
  refine own_tswIn X0 hx 32 (hb hby own_d_jdk_40_method_47_code_2) (by decide) (by decide) (by decide) rfl ?_
  refine own_new X0 hx hZ hown (hw _ (List.mem_of_getElem? (i := 265) rfl)) (hw _ (List.mem_of_getElem? (i := 266) rfl)) (hw _ (List.mem_of_getElem? (i := 267) rfl)) e0 (hb hby own_d_jdk_40_method_47_code_34) (by decide) (by decide) rfl ?_
  intro T1 h1 b1 X1 e1 g1 E1 A1 D1
  have g_b1 : n0 ≤ b1 := Nat.le_trans (own_oz O0) (Nat.le_of_eq g1.symm)
  have sz_b1 : h0.size ≤ b1 := Nat.le_trans K0.1 (Nat.le_of_eq g1.symm)
  have K2 := K0.ext E1
  have Fb1_e0 : Fld Z h1 b1 "java/util/ImmutableCollections$List12" "e0" "Ljava/lang/Object;" .null := D1 (Or.inr (hw _ (List.mem_of_getElem? (i := 291) rfl))) (ty := (.object "java/lang/Object")) (by decide)
  have Fb1_e1 : Fld Z h1 b1 "java/util/ImmutableCollections$List12" "e1" "Ljava/lang/Object;" .null := D1 (Or.inr (hw _ (List.mem_of_getElem? (i := 294) rfl))) (ty := (.object "java/lang/Object")) (by decide)
  refine own_dup X1 hx (hb hby own_d_jdk_40_method_47_code_37) rfl rfl ?_
  refine own_aloadN X1 hx (hb hby own_d_jdk_40_method_47_code_38) rfl rfl rfl ?_
  refine own_iconst X1 hx (0 : Int32) (hb hby own_d_jdk_40_method_47_code_39) (by decide) rfl ?_
  have f3 := (VA.ext E1)
  refine own_aaload X1 hx hZ e1 rfl f3 ⟨by decide, by decide⟩ rfl (hb hby own_d_jdk_40_method_47_code_40) rfl ?_
  have f4 := (O0.ext E1)
  refine own_special X1 hx hZ (y := (⟨"java/util/ImmutableCollections$List12", "<init>", "(Ljava/lang/Object;)V"⟩ : MethodName)) rfl hown (hw _ (List.mem_of_getElem? (i := 268) rfl)) (hw _ (List.mem_of_getElem? (i := 269) rfl)) (hw _ (List.mem_of_getElem? (i := 267) rfl)) (hw _ (List.mem_of_getElem? (i := 271) rfl)) (by decide) e1 (by decide) (W := 1) (by decide) (by decide) (by decide) [(.ref x0)] [(.ref b1)] (by rw [hml]; rfl) (a := b1) (own_l12_1 l Z a0 hw b1 x0 eo mr h1 n0 f4 SX XX g_b1 A1 Fb1_e0 Fb1_e1) own_pd23 rfl rfl rfl (hb hby own_d_jdk_40_method_47_code_41) rfl ?_
  intro v5 T5 L5 X5 hQ5
  obtain ⟨rfl, Nq5, Kq5, Il5⟩ := hQ5
  have N5 := Fr.app N0 Nq5
  have K6 := K2.trans Kq5 (allS (Or.inr sz_b1) all0)
  obtain ⟨Ei5, Fi5, Gi5⟩ := Il5
  show own_Ends p e below _ (T5.setTop (mkF m 44 #[.val (.ref c1), .unset] [(.ref b1)]))
  exact own_retA X5 hx hlocks hret rfl rfl (hb hby own_d_jdk_40_method_47_code_44) (by decide) (by decide) ⟨b1, rfl, N5, by exact ⟨K6, g_b1, sz_b1, ⟨Ei5, Fi5, Gi5⟩⟩⟩
set_option maxRecDepth 65536 in
set_option maxHeartbeats 40000000 in
theorem own_lcp1 (l : Launch) (Z : State) (a0 : Array Value) (hw : ∀ d ∈ tables_1, d.before a0 Z = true) (a1 c1 x0 : Addr) (kc : ClassId) (mc : Int32) (eo mr : Addr) (h0 : Heap) (n0 : Nat) (O0 : Old Z n0 h0) (SX : Sta Z Z.heap "java/util/ImmutableCollections" "EMPTY" "Ljava/lang/Object;" (.ref eo)) (XX : Exa Z Z.heap eo "java/lang/Object") (M : own_Mir Z "[Ljava/lang/Object;" mr) (L0 : own_AL Z h0 a1 c1 mc 1) (Ex0 : Exa Z h0 x0 "java/lang/String") (VA : Arv Z h0 c1 kc (.object "java/lang/Object") (1 : Int32) [(.ref x0)] .null) (OA : own_OE Z kc) :
    own_Met l (⟨"java/util/ImmutableCollections", "listCopy", "(Ljava/util/Collection;)Ljava/util/List;"⟩ : MethodName) jdk_56_method_3_code 2 (some (.object "java/util/List")) ({ frames := 6, cells := 2, slots := 3, locals := 75 } : Room) Z #[(.ref a1)] h0 (fun v h L => ∃ b : Addr, v = some (.ref b) ∧ Fr n0 L ∧ Keep h0 h [] ∧ n0 ≤ b ∧ h0.size ≤ b ∧ (Exa Z h b "java/util/ImmutableCollections$List12" ∧ Fld Z h b "java/util/ImmutableCollections$List12" "e0" "Ljava/lang/Object;" (.ref x0) ∧ Fld Z h b "java/util/ImmutableCollections$List12" "e1" "Ljava/lang/Object;" (.ref eo))) := by
  refine own_met (plainFor_of_name own_pn_java_util_ImmutableCollections) ?_
  intro p e s m below meth c T0 hx hby hml hZ hown hnm hret hlocks X0 e0 hh0
  have ef : entryFrame m #[(.ref a1)] 2 = mkF m 0 #[.val (.ref a1), .unset] [] := by first | (simp [entryFrame, mkF, argsToLocals, Value.category]; done) | rfl
  refine own_entry ef ?_
  have N0 := Fr.nil n0
  have K0 := Keep.refl h0 []
  obtain ⟨El0, Ml0, Dl0, Sl0⟩ := L0
  refine own_aloadN X0 hx (hb hby own_d_jdk_56_method_3_code_0) rfl rfl rfl ?_
  refine own_instN X0 hx hZ hown (hw _ (List.mem_of_getElem? (i := 240) rfl)) e0 El0 (own_not12 hw) (hb hby own_d_jdk_56_method_3_code_1) rfl ?_
  intro T1 X1 e1
  refine own_ifF X1 hx (hb hby own_d_jdk_56_method_3_code_4) rfl (by decide) ?_
  refine own_aloadN X1 hx (hb hby own_d_jdk_56_method_3_code_7) rfl rfl rfl ?_
  refine own_instN X1 hx hZ hown (hw _ (List.mem_of_getElem? (i := 245) rfl)) e1 El0 (own_notN hw) (hb hby own_d_jdk_56_method_3_code_8) rfl ?_
  intro T2 X2 e2
  refine own_ifT X2 hx (hb hby own_d_jdk_56_method_3_code_11) (by decide) rfl (by decide) ?_
  refine own_aloadN X2 hx (hb hby own_d_jdk_56_method_3_code_31) rfl rfl rfl ?_
  refine own_iface X2 hx hZ (xi := (⟨"java/util/Collection", "isEmpty", "()Z"⟩ : MethodName)) (y := (⟨"java/util/ArrayList", "isEmpty", "()Z"⟩ : MethodName)) hown (hw _ (List.mem_of_getElem? (i := 246) rfl)) (hw _ (List.mem_of_getElem? (i := 247) rfl)) (mvT hZ (hw _ (List.mem_of_getElem? (i := 248) rfl))) (hw _ (List.mem_of_getElem? (i := 249) rfl)) (hw _ (List.mem_of_getElem? (i := 250) rfl)) (hw _ (List.mem_of_getElem? (i := 251) rfl)) (hw _ (List.mem_of_getElem? (i := 252) rfl)) (hw _ (List.mem_of_getElem? (i := 253) rfl)) (hw _ (List.mem_of_getElem? (i := 131) rfl)) (hw _ (List.mem_of_getElem? (i := 254) rfl)) (by decide) e2 (by decide) (W := 0) (by decide) (by decide) (by decide) [] [] (by rw [hml]; rfl) El0 (own_alE1 l Z a0 hw a1 h0 n0 Sl0) own_pd14 rfl rfl rfl (hb hby own_d_jdk_56_method_3_code_32) rfl ?_
  intro v3 T3 L3 X3 hQ3
  obtain ⟨rfl, Nq3, hh3⟩ := hQ3
  have N3 := Fr.app N0 Nq3
  show own_Ends p e below _ (T3.setTop (mkF m 37 #[.val (.ref a1), .unset] [(.int (0 : Int32))]))
  refine own_ifT X3 hx (hb hby own_d_jdk_56_method_3_code_37) (by decide) rfl (by decide) ?_
  refine own_aloadN X3 hx (hb hby own_d_jdk_56_method_3_code_44) rfl rfl rfl ?_
  refine own_iface X3 hx hZ (xi := (⟨"java/util/Collection", "toArray", "()[Ljava/lang/Object;"⟩ : MethodName)) (y := (⟨"java/util/ArrayList", "toArray", "()[Ljava/lang/Object;"⟩ : MethodName)) hown (hw _ (List.mem_of_getElem? (i := 255) rfl)) (hw _ (List.mem_of_getElem? (i := 178) rfl)) (mvT hZ (hw _ (List.mem_of_getElem? (i := 179) rfl))) (hw _ (List.mem_of_getElem? (i := 256) rfl)) (hw _ (List.mem_of_getElem? (i := 257) rfl)) (hw _ (List.mem_of_getElem? (i := 258) rfl)) (hw _ (List.mem_of_getElem? (i := 259) rfl)) (hw _ (List.mem_of_getElem? (i := 253) rfl)) (hw _ (List.mem_of_getElem? (i := 131) rfl)) (hw _ (List.mem_of_getElem? (i := 260) rfl)) (by decide) hh3 (by decide) (W := 0) (by decide) (by decide) (by decide) [] [] (by rw [hml]; rfl) El0 (own_toA1 l Z a0 hw a1 c1 mr x0 _ h0 n0 O0 M Ex0 VA OA Dl0 Sl0) own_pd20 rfl rfl rfl (hb hby own_d_jdk_56_method_3_code_45) rfl ?_
  intro v4 T4 L4 X4 hQ4
  obtain ⟨b4, k4, rfl, Nq4, Kq4, g_b4, sz_b4, V4, OE4⟩ := hQ4
  have sz_b4 := Nat.le_trans K0.1 sz_b4
  have N4 := Fr.app N3 Nq4
  have K5 := K0.trans Kq4 all0
  show own_Ends p e below _ (T4.setTop (mkF m 50 #[.val (.ref a1), .unset] [(.ref b4)]))
  have f6 := (O0.keep Kq4 all0)
  have f7 := (Ex0.keep Kq4)
  refine own_static X4 hx hZ (y := (⟨"java/util/List", "of", "([Ljava/lang/Object;)Ljava/util/List;"⟩ : MethodName)) hown (hw _ (List.mem_of_getElem? (i := 262) rfl)) (hw _ (List.mem_of_getElem? (i := 263) rfl)) (hw _ (List.mem_of_getElem? (i := 234) rfl)) (hw _ (List.mem_of_getElem? (i := 264) rfl)) (by decide) rfl (by decide) (W := 0) (by decide) (by decide) (by decide) [(.ref b4)] [] (by rw [hml]; rfl) (own_ofA1 l Z a0 hw b4 x0 _ eo mr T4.heap n0 f6 SX XX f7 V4) own_pd24 rfl rfl rfl (hb hby own_d_jdk_56_method_3_code_50) rfl ?_
  intro v8 T8 L8 X8 hQ8
  obtain ⟨b8, rfl, Nq8, Kq8, g_b8, sz_b8, Il8⟩ := hQ8
  have sz_b8 := Nat.le_trans K5.1 sz_b8
  have N8 := Fr.app N4 Nq8
  have K9 := K5.trans Kq8 all0
  obtain ⟨Ei8, Fi8, Gi8⟩ := Il8
  show own_Ends p e below _ (T8.setTop (mkF m 53 #[.val (.ref a1), .unset] [(.ref b8)]))
  exact own_retA X8 hx hlocks hret rfl rfl (hb hby own_d_jdk_56_method_3_code_53) (by decide) (by decide) ⟨b8, rfl, N8, by exact ⟨K9, g_b8, sz_b8, ⟨Ei8, Fi8, Gi8⟩⟩⟩
set_option maxRecDepth 65536 in
set_option maxHeartbeats 40000000 in
theorem own_cpy1 (l : Launch) (Z : State) (a0 : Array Value) (hw : ∀ d ∈ tables_1, d.before a0 Z = true) (a1 c1 x0 : Addr) (kc : ClassId) (mc : Int32) (eo mr : Addr) (h0 : Heap) (n0 : Nat) (O0 : Old Z n0 h0) (SX : Sta Z Z.heap "java/util/ImmutableCollections" "EMPTY" "Ljava/lang/Object;" (.ref eo)) (XX : Exa Z Z.heap eo "java/lang/Object") (M : own_Mir Z "[Ljava/lang/Object;" mr) (L0 : own_AL Z h0 a1 c1 mc 1) (Ex0 : Exa Z h0 x0 "java/lang/String") (VA : Arv Z h0 c1 kc (.object "java/lang/Object") (1 : Int32) [(.ref x0)] .null) (OA : own_OE Z kc) :
    own_Met l (⟨"java/util/List", "copyOf", "(Ljava/util/Collection;)Ljava/util/List;"⟩ : MethodName) jdk_40_method_48_code 1 (some (.object "java/util/List")) ({ frames := 7, cells := 2, slots := 3, locals := 88 } : Room) Z #[(.ref a1)] h0 (fun v h L => ∃ b : Addr, v = some (.ref b) ∧ Fr n0 L ∧ Keep h0 h [] ∧ n0 ≤ b ∧ h0.size ≤ b ∧ (Exa Z h b "java/util/ImmutableCollections$List12" ∧ Fld Z h b "java/util/ImmutableCollections$List12" "e0" "Ljava/lang/Object;" (.ref x0) ∧ Fld Z h b "java/util/ImmutableCollections$List12" "e1" "Ljava/lang/Object;" (.ref eo))) := by
  refine own_met (plainFor_of_name own_pn_java_util_List) ?_
  intro p e s m below meth c T0 hx hby hml hZ hown hnm hret hlocks X0 e0 hh0
  have ef : entryFrame m #[(.ref a1)] 1 = mkF m 0 #[.val (.ref a1)] [] := by first | (simp [entryFrame, mkF, argsToLocals, Value.category]; done) | rfl
  refine own_entry ef ?_
  have N0 := Fr.nil n0
  have K0 := Keep.refl h0 []
  obtain ⟨El0, Ml0, Dl0, Sl0⟩ := L0
  refine own_aloadN X0 hx (hb hby own_d_jdk_40_method_48_code_0) rfl rfl rfl ?_
  refine own_static X0 hx hZ (y := (⟨"java/util/ImmutableCollections", "listCopy", "(Ljava/util/Collection;)Ljava/util/List;"⟩ : MethodName)) hown (hw _ (List.mem_of_getElem? (i := 236) rfl)) (hw _ (List.mem_of_getElem? (i := 237) rfl)) (hw _ (List.mem_of_getElem? (i := 238) rfl)) (hw _ (List.mem_of_getElem? (i := 239) rfl)) (by decide) e0 (by decide) (W := 0) (by decide) (by decide) (by decide) [(.ref a1)] [] (by rw [hml]; rfl) (own_lcp1 l Z a0 hw a1 c1 x0 _ mc eo mr h0 n0 O0 SX XX M ⟨El0, Ml0, Dl0, Sl0⟩ Ex0 VA OA) own_pd25 rfl rfl rfl (hb hby own_d_jdk_40_method_48_code_1) rfl ?_
  intro v1 T1 L1 X1 hQ1
  obtain ⟨b1, rfl, Nq1, Kq1, g_b1, sz_b1, Il1⟩ := hQ1
  have sz_b1 := Nat.le_trans K0.1 sz_b1
  have N1 := Fr.app N0 Nq1
  have K2 := K0.trans Kq1 all0
  obtain ⟨Ei1, Fi1, Gi1⟩ := Il1
  show own_Ends p e below _ (T1.setTop (mkF m 4 #[.val (.ref a1)] [(.ref b1)]))
  exact own_retA X1 hx hlocks hret rfl rfl (hb hby own_d_jdk_40_method_48_code_4) (by decide) (by decide) ⟨b1, rfl, N1, by exact ⟨K2, g_b1, sz_b1, ⟨Ei1, Fi1, Gi1⟩⟩⟩
set_option maxRecDepth 65536 in
set_option maxHeartbeats 40000000 in
theorem own_cpB2 (l : Launch) (Z : State) (a0 : Array Value) (hw : ∀ d ∈ tables_1, d.before a0 Z = true) (c1 : Addr) (kc : ClassId) (h0 : Heap) (n0 : Nat) (O0 : Old Z n0 h0) (VK : Arv Z h0 c1 kc .byte (0 : Int32) [] (.int (0 : Int32))) :
    own_Met l (⟨"java/util/Arrays", "copyOf", "([BI)[B"⟩ : MethodName) jdk_65_method_121_code 3 (some (.array .byte)) ({ frames := 1, cells := 1, slots := 2, locals := 18 } : Room) Z #[(.ref c1), (.int (2 : Int32))] h0 (fun v h L => ∃ (b : Addr) (k : ClassId), v = some (.ref b) ∧ Fr n0 L ∧ Keep h0 h [] ∧ n0 ≤ b ∧ h0.size ≤ b ∧ Arv Z h b k .byte (2 : Int32) [.int (0 : Int32), .int (0 : Int32)] (.int (0 : Int32))) := by
  refine own_met (plainFor_of_name own_pn_java_util_Arrays) ?_
  intro p e s m below meth c T0 hx hby hml hZ hown hnm hret hlocks X0 e0 hh0
  have ef : entryFrame m #[(.ref c1), (.int (2 : Int32))] 3 = mkF m 0 #[.val (.ref c1), .val (.int (2 : Int32)), .unset] [] := by first | (simp [entryFrame, mkF, argsToLocals, Value.category]; done) | rfl
  refine own_entry ef ?_
  have N0 := Fr.nil n0
  have K0 := Keep.refl h0 []
  refine own_iloadN X0 hx (hb hby own_d_jdk_65_method_121_code_0) rfl rfl ?_
  refine own_aloadN X0 hx (hb hby own_d_jdk_65_method_121_code_1) rfl rfl rfl ?_
  refine own_arraylength X0 hx hZ e0 VK (hb hby own_d_jdk_65_method_121_code_2) rfl ?_
  refine own_icmpT X0 hx (hb hby own_d_jdk_65_method_121_code_3) (by decide) rfl (by decide) ?_
  refine own_iloadN X0 hx (hb hby own_d_jdk_65_method_121_code_14) rfl rfl ?_
  refine own_newPB X0 hx hZ (hw _ (List.mem_of_getElem? (i := 6) rfl)) e0 (hb hby own_d_jdk_65_method_121_code_15) (by decide) 2 (by decide) (by decide) (by decide) (by decide) rfl ?_
  intro T1 h1 b1 k1 X1 e1 g1 E1 V1q CB1
  have g_b1 : n0 ≤ b1 := Nat.le_trans (own_oz O0) (Nat.le_of_eq g1.symm)
  have sz_b1 : h0.size ≤ b1 := Nat.le_trans K0.1 (Nat.le_of_eq g1.symm)
  have K2 := K0.ext E1
  have V1 : Arv Z h1 b1 k1 .byte (2 : Int32) [(.int (0 : Int32)), (.int (0 : Int32))] (.int (0 : Int32)) := Arv.pad V1q (pad_rep [] (.int (0 : Int32)) 2)
  refine own_astoreN X1 hx #[.val (.ref c1), .val (.int (2 : Int32)), .val (.ref b1)] (hb hby own_d_jdk_65_method_121_code_17) rfl rfl rfl ?_
  refine own_aloadN X1 hx (hb hby own_d_jdk_65_method_121_code_18) rfl rfl rfl ?_
  refine own_iconst X1 hx (0 : Int32) (hb hby own_d_jdk_65_method_121_code_19) (by decide) rfl ?_
  refine own_aloadN X1 hx (hb hby own_d_jdk_65_method_121_code_20) rfl rfl rfl ?_
  refine own_iconst X1 hx (0 : Int32) (hb hby own_d_jdk_65_method_121_code_21) (by decide) rfl ?_
  refine own_aloadN X1 hx (hb hby own_d_jdk_65_method_121_code_22) rfl rfl rfl ?_
  have f3 := (VK.ext E1)
  refine own_arraylength X1 hx hZ e1 f3 (hb hby own_d_jdk_65_method_121_code_23) rfl ?_
  refine own_iloadN X1 hx (hb hby own_d_jdk_65_method_121_code_24) rfl rfl ?_
  refine own_static X1 hx hZ (y := (⟨"java/lang/Math", "min", "(II)I"⟩ : MethodName)) hown (hw _ (List.mem_of_getElem? (i := 201) rfl)) (hw _ (List.mem_of_getElem? (i := 124) rfl)) (hw _ (List.mem_of_getElem? (i := 121) rfl)) (hw _ (List.mem_of_getElem? (i := 125) rfl)) (by decide) e1 (by decide) (W := 4) (by decide) (by decide) (by decide) [(.int (0 : Int32)), (.int (2 : Int32))] [(.int (0 : Int32)), (.ref b1), (.int (0 : Int32)), (.ref c1)] (by rw [hml]; rfl) (own_min02 l Z a0 hw h1 n0) own_pd12 rfl rfl rfl (hb hby own_d_jdk_65_method_121_code_25) rfl ?_
  intro v4 T4 L4 X4 hQ4
  obtain ⟨rfl, Nq4, hh4⟩ := hQ4
  have N4 := Fr.app N0 Nq4
  show own_Ends p e below _ (T4.setTop (mkF m 28 #[.val (.ref c1), .val (.int (2 : Int32)), .val (.ref b1)] [(.int (0 : Int32)), (.int (0 : Int32)), (.ref b1), (.int (0 : Int32)), (.ref c1)]))
  refine own_cpA X4 hx hZ hown (hw _ (List.mem_of_getElem? (i := 202) rfl)) (hw _ (List.mem_of_getElem? (i := 205) rfl)) (hw _ (List.mem_of_getElem? (i := 203) rfl)) (hw _ (List.mem_of_getElem? (i := 204) rfl)) hh4 f3 V1 [] (Or.inl ⟨rfl, rfl⟩) (by decide) (by decide) (by decide) (by decide) (by decide) rfl (Nat.le_of_ble_eq_true rfl) N4 g_b1 (by rw [hml]; rfl) (hb hby own_d_jdk_65_method_121_code_28) (by decide) 0 rfl (by decide) rfl ?_
  intro T5 h5 L5 X5 e5 N5 Kq5 V5q
  have K6 := K2.trans Kq5 (allS (Or.inr sz_b1) all0)
  have V5 : Arv Z h5 b1 _ .byte (2 : Int32) [(.int (0 : Int32)), (.int (0 : Int32))] (.int (0 : Int32)) := V5q
  refine own_aloadN X5 hx (hb hby own_d_jdk_65_method_121_code_31) rfl rfl rfl ?_
  exact own_retA X5 hx hlocks hret rfl rfl (hb hby own_d_jdk_65_method_121_code_32) (by decide) (by decide) ⟨b1, _, rfl, N5, by rw [e5]; exact ⟨K6, g_b1, sz_b1, V5⟩⟩
set_option maxRecDepth 65536 in
set_option maxHeartbeats 40000000 in
theorem own_cpB3 (l : Launch) (Z : State) (a0 : Array Value) (hw : ∀ d ∈ tables_1, d.before a0 Z = true) (c1 : Addr) (kc : ClassId) (h0 : Heap) (n0 : Nat) (O0 : Old Z n0 h0) (VK : Arv Z h0 c1 kc .byte (0 : Int32) [] (.int (0 : Int32))) :
    own_Met l (⟨"java/util/Arrays", "copyOf", "([BI)[B"⟩ : MethodName) jdk_65_method_121_code 3 (some (.array .byte)) ({ frames := 1, cells := 1, slots := 3, locals := 18 } : Room) Z #[(.ref c1), (.int (3 : Int32))] h0 (fun v h L => ∃ (b : Addr) (k : ClassId), v = some (.ref b) ∧ Fr n0 L ∧ Keep h0 h [] ∧ n0 ≤ b ∧ h0.size ≤ b ∧ Arv Z h b k .byte (3 : Int32) [.int (0 : Int32), .int (0 : Int32), .int (0 : Int32)] (.int (0 : Int32))) := by
  refine own_met (plainFor_of_name own_pn_java_util_Arrays) ?_
  intro p e s m below meth c T0 hx hby hml hZ hown hnm hret hlocks X0 e0 hh0
  have ef : entryFrame m #[(.ref c1), (.int (3 : Int32))] 3 = mkF m 0 #[.val (.ref c1), .val (.int (3 : Int32)), .unset] [] := by first | (simp [entryFrame, mkF, argsToLocals, Value.category]; done) | rfl
  refine own_entry ef ?_
  have N0 := Fr.nil n0
  have K0 := Keep.refl h0 []
  refine own_iloadN X0 hx (hb hby own_d_jdk_65_method_121_code_0) rfl rfl ?_
  refine own_aloadN X0 hx (hb hby own_d_jdk_65_method_121_code_1) rfl rfl rfl ?_
  refine own_arraylength X0 hx hZ e0 VK (hb hby own_d_jdk_65_method_121_code_2) rfl ?_
  refine own_icmpT X0 hx (hb hby own_d_jdk_65_method_121_code_3) (by decide) rfl (by decide) ?_
  refine own_iloadN X0 hx (hb hby own_d_jdk_65_method_121_code_14) rfl rfl ?_
  refine own_newPB X0 hx hZ (hw _ (List.mem_of_getElem? (i := 6) rfl)) e0 (hb hby own_d_jdk_65_method_121_code_15) (by decide) 3 (by decide) (by decide) (by decide) (by decide) rfl ?_
  intro T1 h1 b1 k1 X1 e1 g1 E1 V1q CB1
  have g_b1 : n0 ≤ b1 := Nat.le_trans (own_oz O0) (Nat.le_of_eq g1.symm)
  have sz_b1 : h0.size ≤ b1 := Nat.le_trans K0.1 (Nat.le_of_eq g1.symm)
  have K2 := K0.ext E1
  have V1 : Arv Z h1 b1 k1 .byte (3 : Int32) [(.int (0 : Int32)), (.int (0 : Int32)), (.int (0 : Int32))] (.int (0 : Int32)) := Arv.pad V1q (pad_rep [] (.int (0 : Int32)) 3)
  refine own_astoreN X1 hx #[.val (.ref c1), .val (.int (3 : Int32)), .val (.ref b1)] (hb hby own_d_jdk_65_method_121_code_17) rfl rfl rfl ?_
  refine own_aloadN X1 hx (hb hby own_d_jdk_65_method_121_code_18) rfl rfl rfl ?_
  refine own_iconst X1 hx (0 : Int32) (hb hby own_d_jdk_65_method_121_code_19) (by decide) rfl ?_
  refine own_aloadN X1 hx (hb hby own_d_jdk_65_method_121_code_20) rfl rfl rfl ?_
  refine own_iconst X1 hx (0 : Int32) (hb hby own_d_jdk_65_method_121_code_21) (by decide) rfl ?_
  refine own_aloadN X1 hx (hb hby own_d_jdk_65_method_121_code_22) rfl rfl rfl ?_
  have f3 := (VK.ext E1)
  refine own_arraylength X1 hx hZ e1 f3 (hb hby own_d_jdk_65_method_121_code_23) rfl ?_
  refine own_iloadN X1 hx (hb hby own_d_jdk_65_method_121_code_24) rfl rfl ?_
  refine own_static X1 hx hZ (y := (⟨"java/lang/Math", "min", "(II)I"⟩ : MethodName)) hown (hw _ (List.mem_of_getElem? (i := 201) rfl)) (hw _ (List.mem_of_getElem? (i := 124) rfl)) (hw _ (List.mem_of_getElem? (i := 121) rfl)) (hw _ (List.mem_of_getElem? (i := 125) rfl)) (by decide) e1 (by decide) (W := 4) (by decide) (by decide) (by decide) [(.int (0 : Int32)), (.int (3 : Int32))] [(.int (0 : Int32)), (.ref b1), (.int (0 : Int32)), (.ref c1)] (by rw [hml]; rfl) (own_min03 l Z a0 hw h1 n0) own_pd12 rfl rfl rfl (hb hby own_d_jdk_65_method_121_code_25) rfl ?_
  intro v4 T4 L4 X4 hQ4
  obtain ⟨rfl, Nq4, hh4⟩ := hQ4
  have N4 := Fr.app N0 Nq4
  show own_Ends p e below _ (T4.setTop (mkF m 28 #[.val (.ref c1), .val (.int (3 : Int32)), .val (.ref b1)] [(.int (0 : Int32)), (.int (0 : Int32)), (.ref b1), (.int (0 : Int32)), (.ref c1)]))
  refine own_cpA X4 hx hZ hown (hw _ (List.mem_of_getElem? (i := 202) rfl)) (hw _ (List.mem_of_getElem? (i := 205) rfl)) (hw _ (List.mem_of_getElem? (i := 203) rfl)) (hw _ (List.mem_of_getElem? (i := 204) rfl)) hh4 f3 V1 [] (Or.inl ⟨rfl, rfl⟩) (by decide) (by decide) (by decide) (by decide) (by decide) rfl (Nat.le_of_ble_eq_true rfl) N4 g_b1 (by rw [hml]; rfl) (hb hby own_d_jdk_65_method_121_code_28) (by decide) 0 rfl (by decide) rfl ?_
  intro T5 h5 L5 X5 e5 N5 Kq5 V5q
  have K6 := K2.trans Kq5 (allS (Or.inr sz_b1) all0)
  have V5 : Arv Z h5 b1 _ .byte (3 : Int32) [(.int (0 : Int32)), (.int (0 : Int32)), (.int (0 : Int32))] (.int (0 : Int32)) := V5q
  refine own_aloadN X5 hx (hb hby own_d_jdk_65_method_121_code_31) rfl rfl rfl ?_
  exact own_retA X5 hx hlocks hret rfl rfl (hb hby own_d_jdk_65_method_121_code_32) (by decide) (by decide) ⟨b1, _, rfl, N5, by rw [e5]; exact ⟨K6, g_b1, sz_b1, V5⟩⟩
set_option maxRecDepth 65536 in
set_option maxHeartbeats 40000000 in
theorem own_optI (l : Launch) (Z : State) (a0 : Array Value) (hw : ∀ d ∈ tables_1, d.before a0 Z = true) (o1 x1 : Addr) (h0 : Heap) (n0 : Nat) (g_o1 : n0 ≤ o1) (E0 : Exa Z h0 o1 "java/util/Optional") (F1 : Fld Z h0 o1 "java/util/Optional" "value" "Ljava/lang/Object;" .null) :
    own_Met l (⟨"java/util/Optional", "<init>", "(Ljava/lang/Object;)V"⟩ : MethodName) jdk_32_method_2_code 2 none ({ frames := 1, cells := 0, slots := 0, locals := 12 } : Room) Z #[(.ref o1), (.ref x1)] h0 (fun v h L => v = none ∧ Fr n0 L ∧ Keep h0 h [o1] ∧ Exa Z h o1 "java/util/Optional" ∧ Fld Z h o1 "java/util/Optional" "value" "Ljava/lang/Object;" (.ref x1)) := by
  refine own_met (plainFor_of_name own_pn_java_util_Optional) ?_
  intro p e s m below meth c T0 hx hby hml hZ hown hnm hret hlocks X0 e0 hh0
  have ef : entryFrame m #[(.ref o1), (.ref x1)] 2 = mkF m 0 #[.val (.ref o1), .val (.ref x1)] [] := by first | (simp [entryFrame, mkF, argsToLocals, Value.category]; done) | rfl
  refine own_entry ef ?_
  have N0 := Fr.nil n0
  have K0 := Keep.refl h0 [o1]
  refine own_aloadN X0 hx (hb hby own_d_jdk_32_method_2_code_0) rfl rfl rfl ?_
  refine own_initO X0 hx hZ hown (hw _ (List.mem_of_getElem? (i := 310) rfl)) (hw _ (List.mem_of_getElem? (i := 35) rfl)) (hw _ (List.mem_of_getElem? (i := 36) rfl)) e0 (by rw [hml]; rfl) (hb hby own_d_jdk_32_method_2_code_1) 0 rfl (by decide) (by decide) rfl ?_
  intro T1 X1 e1
  refine own_aloadN X1 hx (hb hby own_d_jdk_32_method_2_code_4) rfl rfl rfl ?_
  refine own_aloadN X1 hx (hb hby own_d_jdk_32_method_2_code_5) rfl rfl rfl ?_
  refine own_putF X1 hx hZ hown (host := "") (Or.inl (hw _ (List.mem_of_getElem? (i := 311) rfl))) Via.refl e1 F1 E0 (Or.inr ⟨(hw _ (List.mem_of_getElem? (i := 312) rfl)), rfl, hnm⟩) (hw _ (List.mem_of_getElem? (i := 304) rfl)) (ty := (.object "java/lang/Object")) (by decide) rfl rfl N0 g_o1 (hb hby own_d_jdk_32_method_2_code_6) rfl ?_
  intro T2 h2 X2 e2 W2 N2
  have K3 := K0.wr W2 (Or.inl (List.mem_of_getElem? (i := 0) rfl))
  have f4 := F1.same W2
  have f5 := (E0.wr W2)
  exact own_ret X2 hx hlocks hret (hb hby own_d_jdk_32_method_2_code_9) (by decide) (by decide) ⟨rfl, N2, by rw [e2]; exact ⟨K3, f5, f4⟩⟩
set_option maxRecDepth 65536 in
set_option maxHeartbeats 40000000 in
theorem own_optOf (l : Launch) (Z : State) (a0 : Array Value) (hw : ∀ d ∈ tables_1, d.before a0 Z = true) (x1 : Addr) (h0 : Heap) (n0 : Nat) (O0 : Old Z n0 h0) :
    own_Met l (⟨"java/util/Optional", "of", "(Ljava/lang/Object;)Ljava/util/Optional;"⟩ : MethodName) jdk_32_method_3_code 1 (some (.object "java/util/Optional")) ({ frames := 2, cells := 1, slots := 1, locals := 26 } : Room) Z #[(.ref x1)] h0 (fun v h L => ∃ op : Addr, v = some (.ref op) ∧ Fr n0 L ∧ Keep h0 h [] ∧ Exa Z h op "java/util/Optional" ∧ Fld Z h op "java/util/Optional" "value" "Ljava/lang/Object;" (.ref x1)) := by
  refine own_met (plainFor_of_name own_pn_java_util_Optional) ?_
  intro p e s m below meth c T0 hx hby hml hZ hown hnm hret hlocks X0 e0 hh0
  have ef : entryFrame m #[(.ref x1)] 1 = mkF m 0 #[.val (.ref x1)] [] := by first | (simp [entryFrame, mkF, argsToLocals, Value.category]; done) | rfl
  refine own_entry ef ?_
  have N0 := Fr.nil n0
  have K0 := Keep.refl h0 []
  refine own_new X0 hx hZ hown (hw _ (List.mem_of_getElem? (i := 303) rfl)) (hw _ (List.mem_of_getElem? (i := 304) rfl)) (hw _ (List.mem_of_getElem? (i := 301) rfl)) e0 (hb hby own_d_jdk_32_method_3_code_0) (by decide) (by decide) rfl ?_
  intro T1 h1 b1 X1 e1 g1 E1 A1 D1
  have g_b1 : n0 ≤ b1 := Nat.le_trans (own_oz O0) (Nat.le_of_eq g1.symm)
  have sz_b1 : h0.size ≤ b1 := Nat.le_trans K0.1 (Nat.le_of_eq g1.symm)
  have K2 := K0.ext E1
  have Fb1_value : Fld Z h1 b1 "java/util/Optional" "value" "Ljava/lang/Object;" .null := D1 (Or.inr (hw _ (List.mem_of_getElem? (i := 312) rfl))) (ty := (.object "java/lang/Object")) (by decide)
  refine own_dup X1 hx (hb hby own_d_jdk_32_method_3_code_3) rfl rfl ?_
  refine own_aloadN X1 hx (hb hby own_d_jdk_32_method_3_code_4) rfl rfl rfl ?_
  refine own_static X1 hx hZ (y := (⟨"java/util/Objects", "requireNonNull", "(Ljava/lang/Object;)Ljava/lang/Object;"⟩ : MethodName)) hown (hw _ (List.mem_of_getElem? (i := 305) rfl)) (hw _ (List.mem_of_getElem? (i := 287) rfl)) (hw _ (List.mem_of_getElem? (i := 288) rfl)) (hw _ (List.mem_of_getElem? (i := 289) rfl)) (by decide) e1 (by decide) (W := 2) (by decide) (by decide) (by decide) [(.ref x1)] [(.ref b1), (.ref b1)] (by rw [hml]; rfl) (own_rnn l Z a0 hw x1 h1 n0) own_pd22 rfl rfl rfl (hb hby own_d_jdk_32_method_3_code_5) rfl ?_
  intro v3 T3 L3 X3 hQ3
  obtain ⟨rfl, Nq3, hh3⟩ := hQ3
  have N3 := Fr.app N0 Nq3
  show own_Ends p e below _ (T3.setTop (mkF m 8 #[.val (.ref x1)] [(.ref x1), (.ref b1), (.ref b1)]))
  refine own_special X3 hx hZ (y := (⟨"java/util/Optional", "<init>", "(Ljava/lang/Object;)V"⟩ : MethodName)) rfl hown (hw _ (List.mem_of_getElem? (i := 306) rfl)) (hw _ (List.mem_of_getElem? (i := 307) rfl)) (hw _ (List.mem_of_getElem? (i := 301) rfl)) (hw _ (List.mem_of_getElem? (i := 309) rfl)) (by decide) hh3 (by decide) (W := 1) (by decide) (by decide) (by decide) [(.ref x1)] [(.ref b1)] (by rw [hml]; rfl) (a := b1) (own_optI l Z a0 hw b1 x1 h1 n0 g_b1 A1 Fb1_value) own_pd23 rfl rfl rfl (hb hby own_d_jdk_32_method_3_code_8) rfl ?_
  intro v4 T4 L4 X4 hQ4
  obtain ⟨rfl, Nq4, Kq4, Es4, Vs4⟩ := hQ4
  have N4 := Fr.app N3 Nq4
  have K5 := K2.trans Kq4 (allS (Or.inr sz_b1) all0)
  show own_Ends p e below _ (T4.setTop (mkF m 11 #[.val (.ref x1)] [(.ref b1)]))
  exact own_retA X4 hx hlocks hret rfl rfl (hb hby own_d_jdk_32_method_3_code_11) (by decide) (by decide) ⟨b1, rfl, N4, by exact ⟨K5, Es4, Vs4⟩⟩
set_option maxRecDepth 65536 in
set_option maxHeartbeats 40000000 in
theorem own_orEN (l : Launch) (Z : State) (a0 : Array Value) (hw : ∀ d ∈ tables_1, d.before a0 Z = true) (o1 : Addr) (h0 : Heap) (n0 : Nat) (F1 : Fld Z h0 o1 "java/util/Optional" "value" "Ljava/lang/Object;" .null) :
    own_Met l (⟨"java/util/Optional", "orElse", "(Ljava/lang/Object;)Ljava/lang/Object;"⟩ : MethodName) jdk_32_method_15_code 2 (some (.object "java/lang/Object")) ({ frames := 0, cells := 0, slots := 0, locals := 0 } : Room) Z #[(.ref o1), .null] h0 (fun v h L => v = some .null ∧ Fr n0 L ∧ h = h0) := by
  refine own_met (plainFor_of_name own_pn_java_util_Optional) ?_
  intro p e s m below meth c T0 hx hby hml hZ hown hnm hret hlocks X0 e0 hh0
  have ef : entryFrame m #[(.ref o1), .null] 2 = mkF m 0 #[.val (.ref o1), .val .null] [] := by first | (simp [entryFrame, mkF, argsToLocals, Value.category]; done) | rfl
  refine own_entry ef ?_
  have N0 := Fr.nil n0
  refine own_aloadN X0 hx (hb hby own_d_jdk_32_method_15_code_0) rfl rfl rfl ?_
  refine own_getF X0 hx hZ hown (host := "") (Or.inl (hw _ (List.mem_of_getElem? (i := 311) rfl))) Via.refl e0 F1 (hb hby own_d_jdk_32_method_15_code_1) rfl ?_
  intro T1 X1 e1
  refine own_ifnullT X1 hx (hb hby own_d_jdk_32_method_15_code_4) (by decide) rfl ?_
  refine own_aloadN X1 hx (hb hby own_d_jdk_32_method_15_code_14) rfl rfl rfl ?_
  exact own_retA X1 hx hlocks hret rfl rfl (hb hby own_d_jdk_32_method_15_code_15) (by decide) (by decide) ⟨rfl, N0, e1⟩
set_option maxRecDepth 65536 in
set_option maxHeartbeats 40000000 in
theorem own_isPN (l : Launch) (Z : State) (a0 : Array Value) (hw : ∀ d ∈ tables_1, d.before a0 Z = true) (o1 : Addr) (h0 : Heap) (n0 : Nat) (F1 : Fld Z h0 o1 "java/util/Optional" "value" "Ljava/lang/Object;" .null) :
    own_Met l (⟨"java/util/Optional", "isPresent", "()Z"⟩ : MethodName) jdk_32_method_6_code 1 (some .boolean) ({ frames := 0, cells := 0, slots := 0, locals := 0 } : Room) Z #[(.ref o1)] h0 (fun v h L => v = some (.int (0 : Int32)) ∧ Fr n0 L ∧ h = h0) := by
  refine own_met (plainFor_of_name own_pn_java_util_Optional) ?_
  intro p e s m below meth c T0 hx hby hml hZ hown hnm hret hlocks X0 e0 hh0
  have ef : entryFrame m #[(.ref o1)] 1 = mkF m 0 #[.val (.ref o1)] [] := by first | (simp [entryFrame, mkF, argsToLocals, Value.category]; done) | rfl
  refine own_entry ef ?_
  have N0 := Fr.nil n0
  refine own_aloadN X0 hx (hb hby own_d_jdk_32_method_6_code_0) rfl rfl rfl ?_
  refine own_getF X0 hx hZ hown (host := "") (Or.inl (hw _ (List.mem_of_getElem? (i := 311) rfl))) Via.refl e0 F1 (hb hby own_d_jdk_32_method_6_code_1) rfl ?_
  intro T1 X1 e1
  refine own_ifnullT X1 hx (hb hby own_d_jdk_32_method_6_code_4) (by decide) rfl ?_
  refine own_iconst X1 hx (0 : Int32) (hb hby own_d_jdk_32_method_6_code_11) (by decide) rfl ?_
  exact own_retN X1 hx hlocks hret (by simp) (hb hby own_d_jdk_32_method_6_code_12) (by decide) (by decide) (by decide) ⟨rfl, N0, e1⟩
set_option maxRecDepth 65536 in
set_option maxHeartbeats 40000000 in
theorem own_orER (l : Launch) (Z : State) (a0 : Array Value) (hw : ∀ d ∈ tables_1, d.before a0 Z = true) (o1 x1 : Addr) (h0 : Heap) (n0 : Nat) (F1 : Fld Z h0 o1 "java/util/Optional" "value" "Ljava/lang/Object;" (.ref x1)) :
    own_Met l (⟨"java/util/Optional", "orElse", "(Ljava/lang/Object;)Ljava/lang/Object;"⟩ : MethodName) jdk_32_method_15_code 2 (some (.object "java/lang/Object")) ({ frames := 0, cells := 0, slots := 0, locals := 0 } : Room) Z #[(.ref o1), .null] h0 (fun v h L => v = some (.ref x1) ∧ Fr n0 L ∧ h = h0) := by
  refine own_met (plainFor_of_name own_pn_java_util_Optional) ?_
  intro p e s m below meth c T0 hx hby hml hZ hown hnm hret hlocks X0 e0 hh0
  have ef : entryFrame m #[(.ref o1), .null] 2 = mkF m 0 #[.val (.ref o1), .val .null] [] := by first | (simp [entryFrame, mkF, argsToLocals, Value.category]; done) | rfl
  refine own_entry ef ?_
  have N0 := Fr.nil n0
  refine own_aloadN X0 hx (hb hby own_d_jdk_32_method_15_code_0) rfl rfl rfl ?_
  refine own_getF X0 hx hZ hown (host := "") (Or.inl (hw _ (List.mem_of_getElem? (i := 311) rfl))) Via.refl e0 F1 (hb hby own_d_jdk_32_method_15_code_1) rfl ?_
  intro T1 X1 e1
  refine own_ifnullF X1 hx (hb hby own_d_jdk_32_method_15_code_4) rfl ?_
  refine own_aloadN X1 hx (hb hby own_d_jdk_32_method_15_code_7) rfl rfl rfl ?_
  refine own_getF X1 hx hZ hown (host := "") (Or.inl (hw _ (List.mem_of_getElem? (i := 311) rfl))) Via.refl e1 F1 (hb hby own_d_jdk_32_method_15_code_8) rfl ?_
  intro T2 X2 e2
  refine own_goto X2 hx (hb hby own_d_jdk_32_method_15_code_11) (by decide) rfl ?_
  exact own_retA X2 hx hlocks hret rfl rfl (hb hby own_d_jdk_32_method_15_code_15) (by decide) (by decide) ⟨rfl, N0, e2⟩
set_option maxRecDepth 65536 in
set_option maxHeartbeats 40000000 in
theorem own_isPR (l : Launch) (Z : State) (a0 : Array Value) (hw : ∀ d ∈ tables_1, d.before a0 Z = true) (o1 x1 : Addr) (h0 : Heap) (n0 : Nat) (F1 : Fld Z h0 o1 "java/util/Optional" "value" "Ljava/lang/Object;" (.ref x1)) :
    own_Met l (⟨"java/util/Optional", "isPresent", "()Z"⟩ : MethodName) jdk_32_method_6_code 1 (some .boolean) ({ frames := 0, cells := 0, slots := 0, locals := 0 } : Room) Z #[(.ref o1)] h0 (fun v h L => v = some (.int (1 : Int32)) ∧ Fr n0 L ∧ h = h0) := by
  refine own_met (plainFor_of_name own_pn_java_util_Optional) ?_
  intro p e s m below meth c T0 hx hby hml hZ hown hnm hret hlocks X0 e0 hh0
  have ef : entryFrame m #[(.ref o1)] 1 = mkF m 0 #[.val (.ref o1)] [] := by first | (simp [entryFrame, mkF, argsToLocals, Value.category]; done) | rfl
  refine own_entry ef ?_
  have N0 := Fr.nil n0
  refine own_aloadN X0 hx (hb hby own_d_jdk_32_method_6_code_0) rfl rfl rfl ?_
  refine own_getF X0 hx hZ hown (host := "") (Or.inl (hw _ (List.mem_of_getElem? (i := 311) rfl))) Via.refl e0 F1 (hb hby own_d_jdk_32_method_6_code_1) rfl ?_
  intro T1 X1 e1
  refine own_ifnullF X1 hx (hb hby own_d_jdk_32_method_6_code_4) rfl ?_
  refine own_iconst X1 hx (1 : Int32) (hb hby own_d_jdk_32_method_6_code_7) (by decide) rfl ?_
  refine own_goto X1 hx (hb hby own_d_jdk_32_method_6_code_8) (by decide) rfl ?_
  exact own_retN X1 hx hlocks hret (by simp) (hb hby own_d_jdk_32_method_6_code_12) (by decide) (by decide) (by decide) ⟨rfl, N0, e1⟩
set_option maxRecDepth 65536 in
set_option maxHeartbeats 40000000 in
theorem own_rpI (l : Launch) (Z : State) (a0 : Array Value) (hw : ∀ d ∈ tables_1, d.before a0 Z = true) (o1 n1 k1 : Addr) (h0 : Heap) (n0 : Nat) (g_o1 : n0 ≤ o1) (E0 : Exa Z h0 o1 "com/example/lockstitch/lockstitch/engine/tree/ResourcePath") (F1 : Fld Z h0 o1 "com/example/lockstitch/lockstitch/engine/tree/ResourcePath" "names" "Ljava/util/List;" .null) (F2 : Fld Z h0 o1 "com/example/lockstitch/lockstitch/engine/tree/ResourcePath" "key" "[B" .null) :
    own_Met l (⟨"com/example/lockstitch/lockstitch/engine/tree/ResourcePath", "<init>", "(Ljava/util/List;[B)V"⟩ : MethodName) prog_24_method_2_code 3 none ({ frames := 1, cells := 0, slots := 0, locals := 12 } : Room) Z #[(.ref o1), (.ref n1), (.ref k1)] h0 (fun v h L => v = none ∧ Fr n0 L ∧ Keep h0 h [o1] ∧ Exa Z h o1 "com/example/lockstitch/lockstitch/engine/tree/ResourcePath") := by
  refine own_met (plainFor_of_name own_pn_com_example_lockstitch_lockstitch_engine_tree_ResourcePath) ?_
  intro p e s m below meth c T0 hx hby hml hZ hown hnm hret hlocks X0 e0 hh0
  have ef : entryFrame m #[(.ref o1), (.ref n1), (.ref k1)] 3 = mkF m 0 #[.val (.ref o1), .val (.ref n1), .val (.ref k1)] [] := by first | (simp [entryFrame, mkF, argsToLocals, Value.category]; done) | rfl
  refine own_entry ef ?_
  have N0 := Fr.nil n0
  have K0 := Keep.refl h0 [o1]
  refine own_aloadN X0 hx (hb hby own_d_prog_24_method_2_code_0) rfl rfl rfl ?_
  refine own_initO X0 hx hZ hown (hw _ (List.mem_of_getElem? (i := 298) rfl)) (hw _ (List.mem_of_getElem? (i := 35) rfl)) (hw _ (List.mem_of_getElem? (i := 36) rfl)) e0 (by rw [hml]; rfl) (hb hby own_d_prog_24_method_2_code_1) 0 rfl (by decide) (by decide) rfl ?_
  intro T1 X1 e1
  refine own_aloadN X1 hx (hb hby own_d_prog_24_method_2_code_4) rfl rfl rfl ?_
  refine own_aloadN X1 hx (hb hby own_d_prog_24_method_2_code_5) rfl rfl rfl ?_
  refine own_putF X1 hx hZ hown (host := "") (Or.inl (hw _ (List.mem_of_getElem? (i := 132) rfl))) Via.refl e1 F1 E0 (Or.inr ⟨(hw _ (List.mem_of_getElem? (i := 133) rfl)), rfl, hnm⟩) (hw _ (List.mem_of_getElem? (i := 231) rfl)) (ty := (.object "java/util/List")) (by decide) rfl rfl N0 g_o1 (hb hby own_d_prog_24_method_2_code_6) rfl ?_
  intro T2 h2 X2 e2 W2 N2
  have K3 := K0.wr W2 (Or.inl (List.mem_of_getElem? (i := 0) rfl))
  have f4 := F1.same W2
  refine own_aloadN X2 hx (hb hby own_d_prog_24_method_2_code_9) rfl rfl rfl ?_
  refine own_aloadN X2 hx (hb hby own_d_prog_24_method_2_code_10) rfl rfl rfl ?_
  have f5 := (F2.other W2 (Or.inr (slot_ne (Or.inr (hw _ (List.mem_of_getElem? (i := 225) rfl))) (Or.inr (hw _ (List.mem_of_getElem? (i := 133) rfl))) (by decide) (t := (.array .byte)) (t' := (.object "java/util/List")) (by decide) (by decide))))
  have f6 := (E0.wr W2)
  refine own_putF X2 hx hZ hown (host := "") (Or.inl (hw _ (List.mem_of_getElem? (i := 224) rfl))) Via.refl e2 f5 f6 (Or.inr ⟨(hw _ (List.mem_of_getElem? (i := 225) rfl)), rfl, hnm⟩) (hw _ (List.mem_of_getElem? (i := 231) rfl)) (ty := (.array .byte)) (by decide) rfl rfl N2 g_o1 (hb hby own_d_prog_24_method_2_code_11) rfl ?_
  intro T7 h7 X7 e7 W7 N7
  have K8 := K3.wr W7 (Or.inl (List.mem_of_getElem? (i := 0) rfl))
  have f9 := f5.same W7
  have f10 := (f6.wr W7)
  exact own_ret X7 hx hlocks hret (hb hby own_d_prog_24_method_2_code_14) (by decide) (by decide) ⟨rfl, N7, by rw [e7]; exact ⟨K8, f10⟩⟩
def own_minL (a b : Int64) : Int64 := if (0 : Int32) < lcmpW a b then b else a
set_option maxRecDepth 65536 in
set_option maxHeartbeats 40000000 in
theorem own_mnL (l : Launch) (Z : State) (a0 : Array Value) (hw : ∀ d ∈ tables_1, d.before a0 Z = true) (q1 q2 : Int64) (h0 : Heap) (n0 : Nat)  :
    own_Met l (⟨"java/lang/Math", "min", "(JJ)J"⟩ : MethodName) jdk_29_method_70_code 4 (some .long) ({ frames := 0, cells := 0, slots := 0, locals := 0 } : Room) Z #[(.long q1), (.long q2)] h0 (fun v h L => v = some (.long (own_minL q1 q2)) ∧ Fr n0 L ∧ h = h0) := by
  refine own_met (Jvm.Free.JP.mathPlain rfl (by decide +kernel)) ?_
  intro p e s m below meth c T0 hx hby hml hZ hown hnm hret hlocks X0 e0 hh0
  have ef : entryFrame m #[(.long q1), (.long q2)] 4 = mkF m 0 #[.val (.long q1), .second, .val (.long q2), .second] [] := by first | (simp [entryFrame, mkF, argsToLocals, Value.category]; done) | rfl
  refine own_entry ef ?_
  have N0 := Fr.nil n0
  refine own_lloadN X0 hx (hb hby own_d_jdk_29_method_70_code_0) rfl rfl ?_
  refine own_lloadN X0 hx (hb hby own_d_jdk_29_method_70_code_1) rfl rfl ?_
  refine own_lcmp X0 hx (hb hby own_d_jdk_29_method_70_code_2) rfl ?_
  refine own_if_gt X0 hx (hb hby own_d_jdk_29_method_70_code_3) (by decide) rfl rfl (fun hc3_1 => ?_) (fun hc3_1 => ?_)
  · refine own_lloadN X0 hx (hb hby own_d_jdk_29_method_70_code_10) rfl rfl ?_
    exact own_retJ X0 hx hlocks hret (hb hby own_d_jdk_29_method_70_code_11) (by decide) (by decide) ⟨congrArg (fun q => some (Value.long q)) (by simp only [own_minL, if_pos hc3_1]), N0, e0⟩
  · refine own_lloadN X0 hx (hb hby own_d_jdk_29_method_70_code_6) rfl rfl ?_
    refine own_goto X0 hx (hb hby own_d_jdk_29_method_70_code_7) (by decide) rfl ?_
    exact own_retJ X0 hx hlocks hret (hb hby own_d_jdk_29_method_70_code_11) (by decide) (by decide) ⟨congrArg (fun q => some (Value.long q)) (by simp only [own_minL, if_neg hc3_1]), N0, e0⟩
set_option maxRecDepth 65536 in
set_option maxHeartbeats 40000000 in
theorem own_whoN (l : Launch) (Z : State) (a0 : Array Value) (hw : ∀ d ∈ tables_1, d.before a0 Z = true) (o1 : Addr) (rv : Int64) (h0 : Heap) (n0 : Nat) (F1 : Fld Z h0 o1 "com/example/lockstitch/lockstitch/engine/tree/SyncToken" "inside" "Lcom/example/lockstitch/lockstitch/engine/tree/ResourcePath;" .null) (F2 : Fld Z h0 o1 "com/example/lockstitch/lockstitch/engine/tree/SyncToken" "revision" "J" (.long rv)) :
    own_Met l (⟨"com/example/lockstitch/lockstitch/engine/tree/SyncToken", "wholeUpTo", "()J"⟩ : MethodName) prog_27_method_9_code 1 (some .long) ({ frames := 0, cells := 0, slots := 0, locals := 0 } : Room) Z #[(.ref o1)] h0 (fun v h L => v = some (.long rv) ∧ Fr n0 L ∧ h = h0) := by
  refine own_met (plainFor_of_name own_pn_com_example_lockstitch_lockstitch_engine_tree_SyncToken) ?_
  intro p e s m below meth c T0 hx hby hml hZ hown hnm hret hlocks X0 e0 hh0
  have ef : entryFrame m #[(.ref o1)] 1 = mkF m 0 #[.val (.ref o1)] [] := by first | (simp [entryFrame, mkF, argsToLocals, Value.category]; done) | rfl
  refine own_entry ef ?_
  have N0 := Fr.nil n0
  refine own_aloadN X0 hx (hb hby own_d_prog_27_method_9_code_0) rfl rfl rfl ?_
  refine own_getF X0 hx hZ hown (host := "") (Or.inl (hw _ (List.mem_of_getElem? (i := 330) rfl))) Via.refl e0 F1 (hb hby own_d_prog_27_method_9_code_1) rfl ?_
  intro T1 X1 e1
  refine own_ifnonnullF X1 hx (hb hby own_d_prog_27_method_9_code_4) rfl ?_
  refine own_aloadN X1 hx (hb hby own_d_prog_27_method_9_code_7) rfl rfl rfl ?_
  refine own_getF X1 hx hZ hown (host := "") (Or.inl (hw _ (List.mem_of_getElem? (i := 321) rfl))) Via.refl e1 F2 (hb hby own_d_prog_27_method_9_code_8) rfl ?_
  intro T2 X2 e2
  refine own_goto X2 hx (hb hby own_d_prog_27_method_9_code_11) (by decide) rfl ?_
  exact own_retJ X2 hx hlocks hret (hb hby own_d_prog_27_method_9_code_20) (by decide) (by decide) ⟨rfl, N0, e2⟩
set_option maxRecDepth 65536 in
set_option maxHeartbeats 40000000 in
theorem own_whoR (l : Launch) (Z : State) (a0 : Array Value) (hw : ∀ d ∈ tables_1, d.before a0 Z = true) (o1 x1 : Addr) (rv : Int64) (h0 : Heap) (n0 : Nat) (F1 : Fld Z h0 o1 "com/example/lockstitch/lockstitch/engine/tree/SyncToken" "inside" "Lcom/example/lockstitch/lockstitch/engine/tree/ResourcePath;" (.ref x1)) (F2 : Fld Z h0 o1 "com/example/lockstitch/lockstitch/engine/tree/SyncToken" "revision" "J" (.long rv)) :
    own_Met l (⟨"com/example/lockstitch/lockstitch/engine/tree/SyncToken", "wholeUpTo", "()J"⟩ : MethodName) prog_27_method_9_code 1 (some .long) ({ frames := 0, cells := 0, slots := 0, locals := 0 } : Room) Z #[(.ref o1)] h0 (fun v h L => v = some (.long (rv - (1 : Int64))) ∧ Fr n0 L ∧ h = h0) := by
  refine own_met (plainFor_of_name own_pn_com_example_lockstitch_lockstitch_engine_tree_SyncToken) ?_
  intro p e s m below meth c T0 hx hby hml hZ hown hnm hret hlocks X0 e0 hh0
  have ef : entryFrame m #[(.ref o1)] 1 = mkF m 0 #[.val (.ref o1)] [] := by first | (simp [entryFrame, mkF, argsToLocals, Value.category]; done) | rfl
  refine own_entry ef ?_
  have N0 := Fr.nil n0
  refine own_aloadN X0 hx (hb hby own_d_prog_27_method_9_code_0) rfl rfl rfl ?_
  refine own_getF X0 hx hZ hown (host := "") (Or.inl (hw _ (List.mem_of_getElem? (i := 330) rfl))) Via.refl e0 F1 (hb hby own_d_prog_27_method_9_code_1) rfl ?_
  intro T1 X1 e1
  refine own_ifnonnullT X1 hx (hb hby own_d_prog_27_method_9_code_4) (by decide) rfl ?_
  refine own_aloadN X1 hx (hb hby own_d_prog_27_method_9_code_14) rfl rfl rfl ?_
  refine own_getF X1 hx hZ hown (host := "") (Or.inl (hw _ (List.mem_of_getElem? (i := 321) rfl))) Via.refl e1 F2 (hb hby own_d_prog_27_method_9_code_15) rfl ?_
  intro T2 X2 e2
  refine own_lconst X2 hx (1 : Int64) (hb hby own_d_prog_27_method_9_code_18) (by decide) rfl ?_
  refine own_lsub X2 hx (hb hby own_d_prog_27_method_9_code_19) rfl ?_
  exact own_retJ X2 hx hlocks hret (hb hby own_d_prog_27_method_9_code_20) (by decide) (by decide) ⟨rfl, N0, e2⟩
set_option maxRecDepth 65536 in
set_option maxHeartbeats 40000000 in
theorem own_beg (l : Launch) (Z : State) (a0 : Array Value) (hw : ∀ d ∈ tables_1, d.before a0 Z = true) (o1 : Addr) (bg : Int64) (h0 : Heap) (n0 : Nat) (F1 : Fld Z h0 o1 "com/example/lockstitch/lockstitch/engine/tree/SyncToken" "begun" "J" (.long bg)) :
    own_Met l (⟨"com/example/lockstitch/lockstitch/engine/tree/SyncToken", "begun", "()J"⟩ : MethodName) prog_27_method_12_code 1 (some .long) ({ frames := 0, cells := 0, slots := 0, locals := 0 } : Room) Z #[(.ref o1)] h0 (fun v h L => v = some (.long bg) ∧ Fr n0 L ∧ h = h0) := by
  refine own_met (plainFor_of_name own_pn_com_example_lockstitch_lockstitch_engine_tree_SyncToken) ?_
  intro p e s m below meth c T0 hx hby hml hZ hown hnm hret hlocks X0 e0 hh0
  have ef : entryFrame m #[(.ref o1)] 1 = mkF m 0 #[.val (.ref o1)] [] := by first | (simp [entryFrame, mkF, argsToLocals, Value.category]; done) | rfl
  refine own_entry ef ?_
  have N0 := Fr.nil n0
  refine own_aloadN X0 hx (hb hby own_d_prog_27_method_12_code_0) rfl rfl rfl ?_
  refine own_getF X0 hx hZ hown (host := "") (Or.inl (hw _ (List.mem_of_getElem? (i := 347) rfl))) Via.refl e0 F1 (hb hby own_d_prog_27_method_12_code_1) rfl ?_
  intro T1 X1 e1
  exact own_retJ X1 hx hlocks hret (hb hby own_d_prog_27_method_12_code_4) (by decide) (by decide) ⟨rfl, N0, e1⟩
set_option maxRecDepth 65536 in
set_option maxHeartbeats 40000000 in
theorem own_stiN0 (l : Launch) (Z : State) (a0 : Array Value) (hw : ∀ d ∈ tables_1, d.before a0 Z = true) (o1 g1 g2 op : Addr) (rv bg : Int64) (h0 : Heap) (n0 : Nat) (g_o1 : n0 ≤ o1) (E0 : Exa Z h0 o1 "com/example/lockstitch/lockstitch/engine/tree/SyncToken") (D0 : (∀ {O nm d : String} {ty : FieldType}, Laid Z a0 "com/example/lockstitch/lockstitch/engine/tree/SyncToken" O nm d → parseFieldDescriptor d = some ty → Fld Z h0 o1 O nm d (defaultValue ty))) (E1 : Exa Z h0 op "java/util/Optional") (F1 : Fld Z h0 op "java/util/Optional" "value" "Ljava/lang/Object;" .null) :
    own_Met l (⟨"com/example/lockstitch/lockstitch/engine/tree/SyncToken", "<init>", "(Ljava/lang/String;Ljava/lang/String;JLjava/util/Optional;ZJ)V"⟩ : MethodName) prog_27_method_2_code 9 none ({ frames := 1, cells := 0, slots := 0, locals := 16 } : Room) Z #[(.ref o1), (.ref g1), (.ref g2), (.long rv), (.ref op), (.int (0 : Int32)), (.long bg)] h0 (fun v h L => v = none ∧ Fr n0 L ∧ Keep h0 h [o1] ∧ Exa Z h o1 "com/example/lockstitch/lockstitch/engine/tree/SyncToken" ∧ Fld Z h o1 "com/example/lockstitch/lockstitch/engine/tree/SyncToken" "revision" "J" (.long rv) ∧ Fld Z h o1 "com/example/lockstitch/lockstitch/engine/tree/SyncToken" "inside" "Lcom/example/lockstitch/lockstitch/engine/tree/ResourcePath;" .null ∧ Fld Z h o1 "com/example/lockstitch/lockstitch/engine/tree/SyncToken" "begun" "J" (.long (own_minL bg rv))) := by
  refine own_met (plainFor_of_name own_pn_com_example_lockstitch_lockstitch_engine_tree_SyncToken) ?_
  intro p e s m below meth c T0 hx hby hml hZ hown hnm hret hlocks X0 e0 hh0
  have ef : entryFrame m #[(.ref o1), (.ref g1), (.ref g2), (.long rv), (.ref op), (.int (0 : Int32)), (.long bg)] 9 = mkF m 0 #[.val (.ref o1), .val (.ref g1), .val (.ref g2), .val (.long rv), .second, .val (.ref op), .val (.int (0 : Int32)), .val (.long bg), .second] [] := by first | (simp [entryFrame, mkF, argsToLocals, Value.category]; done) | rfl
  refine own_entry ef ?_
  have N0 := Fr.nil n0
  have K0 := Keep.refl h0 [o1]
  have Fo1_history : Fld Z h0 o1 "com/example/lockstitch/lockstitch/engine/tree/SyncToken" "history" "Ljava/lang/String;" .null := D0 (Or.inr (hw _ (List.mem_of_getElem? (i := 318) rfl))) (ty := (.object "java/lang/String")) (by decide)
  have Fo1_collection : Fld Z h0 o1 "com/example/lockstitch/lockstitch/engine/tree/SyncToken" "collection" "Ljava/lang/String;" .null := D0 (Or.inr (hw _ (List.mem_of_getElem? (i := 320) rfl))) (ty := (.object "java/lang/String")) (by decide)
  have Fo1_revision : Fld Z h0 o1 "com/example/lockstitch/lockstitch/engine/tree/SyncToken" "revision" "J" (.long (0 : Int64)) := D0 (Or.inr (hw _ (List.mem_of_getElem? (i := 322) rfl))) (ty := .long) (by decide)
  have Fo1_inside : Fld Z h0 o1 "com/example/lockstitch/lockstitch/engine/tree/SyncToken" "inside" "Lcom/example/lockstitch/lockstitch/engine/tree/ResourcePath;" .null := D0 (Or.inr (hw _ (List.mem_of_getElem? (i := 331) rfl))) (ty := (.object "com/example/lockstitch/lockstitch/engine/tree/ResourcePath")) (by decide)
  have Fo1_asFile : Fld Z h0 o1 "com/example/lockstitch/lockstitch/engine/tree/SyncToken" "asFile" "Z" (.int (0 : Int32)) := D0 (Or.inr (hw _ (List.mem_of_getElem? (i := 338) rfl))) (ty := .boolean) (by decide)
  have Fo1_begun : Fld Z h0 o1 "com/example/lockstitch/lockstitch/engine/tree/SyncToken" "begun" "J" (.long (0 : Int64)) := D0 (Or.inr (hw _ (List.mem_of_getElem? (i := 348) rfl))) (ty := .long) (by decide)
  refine own_aloadN X0 hx (hb hby own_d_prog_27_method_2_code_0) rfl rfl rfl ?_
  refine own_initO X0 hx hZ hown (hw _ (List.mem_of_getElem? (i := 316) rfl)) (hw _ (List.mem_of_getElem? (i := 35) rfl)) (hw _ (List.mem_of_getElem? (i := 36) rfl)) e0 (by rw [hml]; rfl) (hb hby own_d_prog_27_method_2_code_1) 0 rfl (by decide) (by decide) rfl ?_
  intro T1 X1 e1
  refine own_aloadN X1 hx (hb hby own_d_prog_27_method_2_code_4) rfl rfl rfl ?_
  refine own_aloadN X1 hx (hb hby own_d_prog_27_method_2_code_5) rfl rfl rfl ?_
  refine own_putF X1 hx hZ hown (host := "") (Or.inl (hw _ (List.mem_of_getElem? (i := 317) rfl))) Via.refl e1 Fo1_history E0 (Or.inr ⟨(hw _ (List.mem_of_getElem? (i := 318) rfl)), rfl, hnm⟩) (hw _ (List.mem_of_getElem? (i := 1) rfl)) (ty := (.object "java/lang/String")) (by decide) rfl rfl N0 g_o1 (hb hby own_d_prog_27_method_2_code_6) rfl ?_
  intro T2 h2 X2 e2 W2 N2
  have K3 := K0.wr W2 (Or.inl (List.mem_of_getElem? (i := 0) rfl))
  have f4 := Fo1_history.same W2
  refine own_aloadN X2 hx (hb hby own_d_prog_27_method_2_code_9) rfl rfl rfl ?_
  refine own_aloadN X2 hx (hb hby own_d_prog_27_method_2_code_10) rfl rfl rfl ?_
  have f5 := (Fo1_collection.other W2 (Or.inr (slot_ne (Or.inr (hw _ (List.mem_of_getElem? (i := 320) rfl))) (Or.inr (hw _ (List.mem_of_getElem? (i := 318) rfl))) (by decide) (t := (.object "java/lang/String")) (t' := (.object "java/lang/String")) (by decide) (by decide))))
  have f6 := (E0.wr W2)
  refine own_putF X2 hx hZ hown (host := "") (Or.inl (hw _ (List.mem_of_getElem? (i := 319) rfl))) Via.refl e2 f5 f6 (Or.inr ⟨(hw _ (List.mem_of_getElem? (i := 320) rfl)), rfl, hnm⟩) (hw _ (List.mem_of_getElem? (i := 1) rfl)) (ty := (.object "java/lang/String")) (by decide) rfl rfl N2 g_o1 (hb hby own_d_prog_27_method_2_code_11) rfl ?_
  intro T7 h7 X7 e7 W7 N7
  have K8 := K3.wr W7 (Or.inl (List.mem_of_getElem? (i := 0) rfl))
  have f9 := f5.same W7
  refine own_aloadN X7 hx (hb hby own_d_prog_27_method_2_code_14) rfl rfl rfl ?_
  refine own_lloadN X7 hx (hb hby own_d_prog_27_method_2_code_15) rfl rfl ?_
  have f10 := ((Fo1_revision.other W2 (Or.inr (slot_ne (Or.inr (hw _ (List.mem_of_getElem? (i := 322) rfl))) (Or.inr (hw _ (List.mem_of_getElem? (i := 318) rfl))) (by decide) (t := .long) (t' := (.object "java/lang/String")) (by decide) (by decide)))).other W7 (Or.inr (slot_ne (Or.inr (hw _ (List.mem_of_getElem? (i := 322) rfl))) (Or.inr (hw _ (List.mem_of_getElem? (i := 320) rfl))) (by decide) (t := .long) (t' := (.object "java/lang/String")) (by decide) (by decide))))
  have f11 := (f6.wr W7)
  refine own_putF X7 hx hZ hown (host := "") (Or.inl (hw _ (List.mem_of_getElem? (i := 321) rfl))) Via.refl e7 f10 f11 (Or.inr ⟨(hw _ (List.mem_of_getElem? (i := 322) rfl)), rfl, hnm⟩) (hw _ (List.mem_of_getElem? (i := 1) rfl)) (ty := .long) (by decide) rfl rfl N7 g_o1 (hb hby own_d_prog_27_method_2_code_16) rfl ?_
  intro T12 h12 X12 e12 W12 N12
  have K13 := K8.wr W12 (Or.inl (List.mem_of_getElem? (i := 0) rfl))
  have f14 := f10.same W12
  refine own_aloadN X12 hx (hb hby own_d_prog_27_method_2_code_19) rfl rfl rfl ?_
  refine own_aload X12 hx (hb hby own_d_prog_27_method_2_code_20) rfl rfl rfl ?_
  refine own_aconst_null X12 hx (hb hby own_d_prog_27_method_2_code_22) rfl ?_
  have f15 := (((F1.other W2 (Or.inl (ne_exa E1 E0 (by decide)))).other W7 (Or.inl (ne_exa E1 E0 (by decide)))).other W12 (Or.inl (ne_exa E1 E0 (by decide))))
  have f17 := (((E1.wr W2).wr W7).wr W12)
  refine own_virtual X12 hx hZ (y := (⟨"java/util/Optional", "orElse", "(Ljava/lang/Object;)Ljava/lang/Object;"⟩ : MethodName)) (z := (⟨"java/util/Optional", "orElse", "(Ljava/lang/Object;)Ljava/lang/Object;"⟩ : MethodName)) hown (hw _ (List.mem_of_getElem? (i := 323) rfl)) (hw _ (List.mem_of_getElem? (i := 324) rfl)) (notFace_of_selects (args := #[]) (mvT hZ (hw _ (List.mem_of_getElem? (i := 326) rfl)))) (hw _ (List.mem_of_getElem? (i := 326) rfl)) (hw _ (List.mem_of_getElem? (i := 325) rfl)) (hw _ (List.mem_of_getElem? (i := 301) rfl)) (hw _ (List.mem_of_getElem? (i := 327) rfl)) (by decide) e12 (by decide) (W := 1) (by decide) (by decide) (by decide) [.null] [(.ref o1)] (by rw [hml]; rfl) f17 (own_orEN l Z a0 hw op h12 n0 f15) own_pd22 rfl rfl rfl (hb hby own_d_prog_27_method_2_code_23) rfl ?_
  intro v16 T16 L16 X16 hQ16
  obtain ⟨rfl, Nq16, hh16⟩ := hQ16
  have N16 := Fr.app N12 Nq16
  show own_Ends p e below _ (T16.setTop (mkF m 26 #[.val (.ref o1), .val (.ref g1), .val (.ref g2), .val (.long rv), .second, .val (.ref op), .val (.int (0 : Int32)), .val (.long bg), .second] [.null, (.ref o1)]))
  refine own_castN X16 hx (hb hby own_d_prog_27_method_2_code_26) rfl ?_
  have f18 := (((Fo1_inside.other W2 (Or.inr (slot_ne (Or.inr (hw _ (List.mem_of_getElem? (i := 331) rfl))) (Or.inr (hw _ (List.mem_of_getElem? (i := 318) rfl))) (by decide) (t := (.object "com/example/lockstitch/lockstitch/engine/tree/ResourcePath")) (t' := (.object "java/lang/String")) (by decide) (by decide)))).other W7 (Or.inr (slot_ne (Or.inr (hw _ (List.mem_of_getElem? (i := 331) rfl))) (Or.inr (hw _ (List.mem_of_getElem? (i := 320) rfl))) (by decide) (t := (.object "com/example/lockstitch/lockstitch/engine/tree/ResourcePath")) (t' := (.object "java/lang/String")) (by decide) (by decide)))).other W12 (Or.inr (slot_ne (Or.inr (hw _ (List.mem_of_getElem? (i := 331) rfl))) (Or.inr (hw _ (List.mem_of_getElem? (i := 322) rfl))) (by decide) (t := (.object "com/example/lockstitch/lockstitch/engine/tree/ResourcePath")) (t' := .long) (by decide) (by decide))))
  have f19 := (f11.wr W12)
  refine own_putF X16 hx hZ hown (host := "") (Or.inl (hw _ (List.mem_of_getElem? (i := 330) rfl))) Via.refl hh16 f18 f19 (Or.inr ⟨(hw _ (List.mem_of_getElem? (i := 331) rfl)), rfl, hnm⟩) (hw _ (List.mem_of_getElem? (i := 1) rfl)) (ty := (.object "com/example/lockstitch/lockstitch/engine/tree/ResourcePath")) (by decide) rfl rfl N16 g_o1 (hb hby own_d_prog_27_method_2_code_29) rfl ?_
  intro T20 h20 X20 e20 W20 N20
  have K21 := K13.wr W20 (Or.inl (List.mem_of_getElem? (i := 0) rfl))
  have f22 := f18.same W20
  refine own_aloadN X20 hx (hb hby own_d_prog_27_method_2_code_32) rfl rfl rfl ?_
  refine own_iload X20 hx (hb hby own_d_prog_27_method_2_code_33) rfl rfl ?_
  refine own_ifT X20 hx (hb hby own_d_prog_27_method_2_code_35) (by decide) rfl (by decide) ?_
  refine own_iconst X20 hx (0 : Int32) (hb hby own_d_prog_27_method_2_code_50) (by decide) rfl ?_
  have f23 := ((((Fo1_asFile.other W2 (Or.inr (slot_ne (Or.inr (hw _ (List.mem_of_getElem? (i := 338) rfl))) (Or.inr (hw _ (List.mem_of_getElem? (i := 318) rfl))) (by decide) (t := .boolean) (t' := (.object "java/lang/String")) (by decide) (by decide)))).other W7 (Or.inr (slot_ne (Or.inr (hw _ (List.mem_of_getElem? (i := 338) rfl))) (Or.inr (hw _ (List.mem_of_getElem? (i := 320) rfl))) (by decide) (t := .boolean) (t' := (.object "java/lang/String")) (by decide) (by decide)))).other W12 (Or.inr (slot_ne (Or.inr (hw _ (List.mem_of_getElem? (i := 338) rfl))) (Or.inr (hw _ (List.mem_of_getElem? (i := 322) rfl))) (by decide) (t := .boolean) (t' := .long) (by decide) (by decide)))).other W20 (Or.inr (slot_ne (Or.inr (hw _ (List.mem_of_getElem? (i := 338) rfl))) (Or.inr (hw _ (List.mem_of_getElem? (i := 331) rfl))) (by decide) (t := .boolean) (t' := (.object "com/example/lockstitch/lockstitch/engine/tree/ResourcePath")) (by decide) (by decide))))
  have f24 := (f19.wr W20)
  refine own_putFN X20 hx hZ hown (hw _ (List.mem_of_getElem? (i := 337) rfl)) Via.refl e20 (.int (0 : Int32)) f23 f24 (Or.inr ⟨(hw _ (List.mem_of_getElem? (i := 338) rfl)), rfl, hnm⟩) (hw _ (List.mem_of_getElem? (i := 1) rfl)) (ty := .boolean) (by decide) rfl rfl N20 g_o1 (hb hby own_d_prog_27_method_2_code_51) rfl ?_
  intro T25 h25 X25 e25 W25 N25
  have K26 := K21.wr W25 (Or.inl (List.mem_of_getElem? (i := 0) rfl))
  have f27 := f23.same W25
  refine own_aloadN X25 hx (hb hby own_d_prog_27_method_2_code_54) rfl rfl rfl ?_
  refine own_lload X25 hx (hb hby own_d_prog_27_method_2_code_55) rfl rfl ?_
  refine own_aloadN X25 hx (hb hby own_d_prog_27_method_2_code_57) rfl rfl rfl ?_
  have f28 := (f22.other W25 (Or.inr (slot_ne (Or.inr (hw _ (List.mem_of_getElem? (i := 331) rfl))) (Or.inr (hw _ (List.mem_of_getElem? (i := 338) rfl))) (by decide) (t := (.object "com/example/lockstitch/lockstitch/engine/tree/ResourcePath")) (t' := .boolean) (by decide) (by decide))))
  have f29 := ((f14.other W20 (Or.inr (slot_ne (Or.inr (hw _ (List.mem_of_getElem? (i := 322) rfl))) (Or.inr (hw _ (List.mem_of_getElem? (i := 331) rfl))) (by decide) (t := .long) (t' := (.object "com/example/lockstitch/lockstitch/engine/tree/ResourcePath")) (by decide) (by decide)))).other W25 (Or.inr (slot_ne (Or.inr (hw _ (List.mem_of_getElem? (i := 322) rfl))) (Or.inr (hw _ (List.mem_of_getElem? (i := 338) rfl))) (by decide) (t := .long) (t' := .boolean) (by decide) (by decide))))
  have f31 := (f24.wr W25)
  refine own_virtual X25 hx hZ (y := (⟨"com/example/lockstitch/lockstitch/engine/tree/SyncToken", "wholeUpTo", "()J"⟩ : MethodName)) (z := (⟨"com/example/lockstitch/lockstitch/engine/tree/SyncToken", "wholeUpTo", "()J"⟩ : MethodName)) hown (hw _ (List.mem_of_getElem? (i := 339) rfl)) (hw _ (List.mem_of_getElem? (i := 340) rfl)) (notFace_of_selects (args := #[]) (mvT hZ (hw _ (List.mem_of_getElem? (i := 342) rfl)))) (hw _ (List.mem_of_getElem? (i := 342) rfl)) (hw _ (List.mem_of_getElem? (i := 341) rfl)) (hw _ (List.mem_of_getElem? (i := 2) rfl)) (hw _ (List.mem_of_getElem? (i := 343) rfl)) (by decide) e25 (by decide) (W := 3) (by decide) (by decide) (by decide) [] [(.long bg), (.ref o1)] (by rw [hml]; rfl) f31 (own_whoN l Z a0 hw o1 rv h25 n0 f28 f29) own_pd26 rfl rfl rfl (hb hby own_d_prog_27_method_2_code_58) rfl ?_
  intro v30 T30 L30 X30 hQ30
  obtain ⟨rfl, Nq30, hh30⟩ := hQ30
  have N30 := Fr.app N25 Nq30
  show own_Ends p e below _ (T30.setTop (mkF m 61 #[.val (.ref o1), .val (.ref g1), .val (.ref g2), .val (.long rv), .second, .val (.ref op), .val (.int (0 : Int32)), .val (.long bg), .second] [(.long rv), (.long bg), (.ref o1)]))
  refine own_static X30 hx hZ (y := (⟨"java/lang/Math", "min", "(JJ)J"⟩ : MethodName)) hown (hw _ (List.mem_of_getElem? (i := 344) rfl)) (hw _ (List.mem_of_getElem? (i := 345) rfl)) (hw _ (List.mem_of_getElem? (i := 121) rfl)) (hw _ (List.mem_of_getElem? (i := 346) rfl)) (by decide) hh30 (by decide) (W := 1) (by decide) (by decide) (by decide) [(.long bg), (.long rv)] [(.ref o1)] (by rw [hml]; rfl) (own_mnL l Z a0 hw bg rv h25 n0) own_pd27 rfl rfl rfl (hb hby own_d_prog_27_method_2_code_61) rfl ?_
  intro v32 T32 L32 X32 hQ32
  obtain ⟨rfl, Nq32, hh32⟩ := hQ32
  have N32 := Fr.app N30 Nq32
  show own_Ends p e below _ (T32.setTop (mkF m 64 #[.val (.ref o1), .val (.ref g1), .val (.ref g2), .val (.long rv), .second, .val (.ref op), .val (.int (0 : Int32)), .val (.long bg), .second] [(.long (own_minL bg rv)), (.ref o1)]))
  have f33 := (((((Fo1_begun.other W2 (Or.inr (slot_ne (Or.inr (hw _ (List.mem_of_getElem? (i := 348) rfl))) (Or.inr (hw _ (List.mem_of_getElem? (i := 318) rfl))) (by decide) (t := .long) (t' := (.object "java/lang/String")) (by decide) (by decide)))).other W7 (Or.inr (slot_ne (Or.inr (hw _ (List.mem_of_getElem? (i := 348) rfl))) (Or.inr (hw _ (List.mem_of_getElem? (i := 320) rfl))) (by decide) (t := .long) (t' := (.object "java/lang/String")) (by decide) (by decide)))).other W12 (Or.inr (slot_ne (Or.inr (hw _ (List.mem_of_getElem? (i := 348) rfl))) (Or.inr (hw _ (List.mem_of_getElem? (i := 322) rfl))) (by decide) (t := .long) (t' := .long) (by decide) (by decide)))).other W20 (Or.inr (slot_ne (Or.inr (hw _ (List.mem_of_getElem? (i := 348) rfl))) (Or.inr (hw _ (List.mem_of_getElem? (i := 331) rfl))) (by decide) (t := .long) (t' := (.object "com/example/lockstitch/lockstitch/engine/tree/ResourcePath")) (by decide) (by decide)))).other W25 (Or.inr (slot_ne (Or.inr (hw _ (List.mem_of_getElem? (i := 348) rfl))) (Or.inr (hw _ (List.mem_of_getElem? (i := 338) rfl))) (by decide) (t := .long) (t' := .boolean) (by decide) (by decide))))
  refine own_putF X32 hx hZ hown (host := "") (Or.inl (hw _ (List.mem_of_getElem? (i := 347) rfl))) Via.refl hh32 f33 f31 (Or.inr ⟨(hw _ (List.mem_of_getElem? (i := 348) rfl)), rfl, hnm⟩) (hw _ (List.mem_of_getElem? (i := 1) rfl)) (ty := .long) (by decide) rfl rfl N32 g_o1 (hb hby own_d_prog_27_method_2_code_64) rfl ?_
  intro T34 h34 X34 e34 W34 N34
  have K35 := K26.wr W34 (Or.inl (List.mem_of_getElem? (i := 0) rfl))
  have f36 := f33.same W34
  have f37 := (f31.wr W34)
  have f38 := (f29.other W34 (Or.inr (slot_ne (Or.inr (hw _ (List.mem_of_getElem? (i := 322) rfl))) (Or.inr (hw _ (List.mem_of_getElem? (i := 348) rfl))) (by decide) (t := .long) (t' := .long) (by decide) (by decide))))
  have f39 := (f28.other W34 (Or.inr (slot_ne (Or.inr (hw _ (List.mem_of_getElem? (i := 331) rfl))) (Or.inr (hw _ (List.mem_of_getElem? (i := 348) rfl))) (by decide) (t := (.object "com/example/lockstitch/lockstitch/engine/tree/ResourcePath")) (t' := .long) (by decide) (by decide))))
  exact own_ret X34 hx hlocks hret (hb hby own_d_prog_27_method_2_code_67) (by decide) (by decide) ⟨rfl, N34, by rw [e34]; exact ⟨K35, f37, f38, f39, f36⟩⟩
set_option maxRecDepth 65536 in
set_option maxHeartbeats 40000000 in
theorem own_stiN1 (l : Launch) (Z : State) (a0 : Array Value) (hw : ∀ d ∈ tables_1, d.before a0 Z = true) (o1 g1 g2 op : Addr) (rv bg : Int64) (h0 : Heap) (n0 : Nat) (g_o1 : n0 ≤ o1) (E0 : Exa Z h0 o1 "com/example/lockstitch/lockstitch/engine/tree/SyncToken") (D0 : (∀ {O nm d : String} {ty : FieldType}, Laid Z a0 "com/example/lockstitch/lockstitch/engine/tree/SyncToken" O nm d → parseFieldDescriptor d = some ty → Fld Z h0 o1 O nm d (defaultValue ty))) (E1 : Exa Z h0 op "java/util/Optional") (F1 : Fld Z h0 op "java/util/Optional" "value" "Ljava/lang/Object;" .null) :
    own_Met l (⟨"com/example/lockstitch/lockstitch/engine/tree/SyncToken", "<init>", "(Ljava/lang/String;Ljava/lang/String;JLjava/util/Optional;ZJ)V"⟩ : MethodName) prog_27_method_2_code 9 none ({ frames := 1, cells := 0, slots := 0, locals := 16 } : Room) Z #[(.ref o1), (.ref g1), (.ref g2), (.long rv), (.ref op), (.int (1 : Int32)), (.long bg)] h0 (fun v h L => v = none ∧ Fr n0 L ∧ Keep h0 h [o1] ∧ Exa Z h o1 "com/example/lockstitch/lockstitch/engine/tree/SyncToken" ∧ Fld Z h o1 "com/example/lockstitch/lockstitch/engine/tree/SyncToken" "revision" "J" (.long rv) ∧ Fld Z h o1 "com/example/lockstitch/lockstitch/engine/tree/SyncToken" "inside" "Lcom/example/lockstitch/lockstitch/engine/tree/ResourcePath;" .null ∧ Fld Z h o1 "com/example/lockstitch/lockstitch/engine/tree/SyncToken" "begun" "J" (.long (own_minL bg rv))) := by
  refine own_met (plainFor_of_name own_pn_com_example_lockstitch_lockstitch_engine_tree_SyncToken) ?_
  intro p e s m below meth c T0 hx hby hml hZ hown hnm hret hlocks X0 e0 hh0
  have ef : entryFrame m #[(.ref o1), (.ref g1), (.ref g2), (.long rv), (.ref op), (.int (1 : Int32)), (.long bg)] 9 = mkF m 0 #[.val (.ref o1), .val (.ref g1), .val (.ref g2), .val (.long rv), .second, .val (.ref op), .val (.int (1 : Int32)), .val (.long bg), .second] [] := by first | (simp [entryFrame, mkF, argsToLocals, Value.category]; done) | rfl
  refine own_entry ef ?_
  have N0 := Fr.nil n0
  have K0 := Keep.refl h0 [o1]
  have Fo1_history : Fld Z h0 o1 "com/example/lockstitch/lockstitch/engine/tree/SyncToken" "history" "Ljava/lang/String;" .null := D0 (Or.inr (hw _ (List.mem_of_getElem? (i := 318) rfl))) (ty := (.object "java/lang/String")) (by decide)
  have Fo1_collection : Fld Z h0 o1 "com/example/lockstitch/lockstitch/engine/tree/SyncToken" "collection" "Ljava/lang/String;" .null := D0 (Or.inr (hw _ (List.mem_of_getElem? (i := 320) rfl))) (ty := (.object "java/lang/String")) (by decide)
  have Fo1_revision : Fld Z h0 o1 "com/example/lockstitch/lockstitch/engine/tree/SyncToken" "revision" "J" (.long (0 : Int64)) := D0 (Or.inr (hw _ (List.mem_of_getElem? (i := 322) rfl))) (ty := .long) (by decide)
  have Fo1_inside : Fld Z h0 o1 "com/example/lockstitch/lockstitch/engine/tree/SyncToken" "inside" "Lcom/example/lockstitch/lockstitch/engine/tree/ResourcePath;" .null := D0 (Or.inr (hw _ (List.mem_of_getElem? (i := 331) rfl))) (ty := (.object "com/example/lockstitch/lockstitch/engine/tree/ResourcePath")) (by decide)
  have Fo1_asFile : Fld Z h0 o1 "com/example/lockstitch/lockstitch/engine/tree/SyncToken" "asFile" "Z" (.int (0 : Int32)) := D0 (Or.inr (hw _ (List.mem_of_getElem? (i := 338) rfl))) (ty := .boolean) (by decide)
  have Fo1_begun : Fld Z h0 o1 "com/example/lockstitch/lockstitch/engine/tree/SyncToken" "begun" "J" (.long (0 : Int64)) := D0 (Or.inr (hw _ (List.mem_of_getElem? (i := 348) rfl))) (ty := .long) (by decide)
  refine own_aloadN X0 hx (hb hby own_d_prog_27_method_2_code_0) rfl rfl rfl ?_
  refine own_initO X0 hx hZ hown (hw _ (List.mem_of_getElem? (i := 316) rfl)) (hw _ (List.mem_of_getElem? (i := 35) rfl)) (hw _ (List.mem_of_getElem? (i := 36) rfl)) e0 (by rw [hml]; rfl) (hb hby own_d_prog_27_method_2_code_1) 0 rfl (by decide) (by decide) rfl ?_
  intro T1 X1 e1
  refine own_aloadN X1 hx (hb hby own_d_prog_27_method_2_code_4) rfl rfl rfl ?_
  refine own_aloadN X1 hx (hb hby own_d_prog_27_method_2_code_5) rfl rfl rfl ?_
  refine own_putF X1 hx hZ hown (host := "") (Or.inl (hw _ (List.mem_of_getElem? (i := 317) rfl))) Via.refl e1 Fo1_history E0 (Or.inr ⟨(hw _ (List.mem_of_getElem? (i := 318) rfl)), rfl, hnm⟩) (hw _ (List.mem_of_getElem? (i := 1) rfl)) (ty := (.object "java/lang/String")) (by decide) rfl rfl N0 g_o1 (hb hby own_d_prog_27_method_2_code_6) rfl ?_
  intro T2 h2 X2 e2 W2 N2
  have K3 := K0.wr W2 (Or.inl (List.mem_of_getElem? (i := 0) rfl))
  have f4 := Fo1_history.same W2
  refine own_aloadN X2 hx (hb hby own_d_prog_27_method_2_code_9) rfl rfl rfl ?_
  refine own_aloadN X2 hx (hb hby own_d_prog_27_method_2_code_10) rfl rfl rfl ?_
  have f5 := (Fo1_collection.other W2 (Or.inr (slot_ne (Or.inr (hw _ (List.mem_of_getElem? (i := 320) rfl))) (Or.inr (hw _ (List.mem_of_getElem? (i := 318) rfl))) (by decide) (t := (.object "java/lang/String")) (t' := (.object "java/lang/String")) (by decide) (by decide))))
  have f6 := (E0.wr W2)
  refine own_putF X2 hx hZ hown (host := "") (Or.inl (hw _ (List.mem_of_getElem? (i := 319) rfl))) Via.refl e2 f5 f6 (Or.inr ⟨(hw _ (List.mem_of_getElem? (i := 320) rfl)), rfl, hnm⟩) (hw _ (List.mem_of_getElem? (i := 1) rfl)) (ty := (.object "java/lang/String")) (by decide) rfl rfl N2 g_o1 (hb hby own_d_prog_27_method_2_code_11) rfl ?_
  intro T7 h7 X7 e7 W7 N7
  have K8 := K3.wr W7 (Or.inl (List.mem_of_getElem? (i := 0) rfl))
  have f9 := f5.same W7
  refine own_aloadN X7 hx (hb hby own_d_prog_27_method_2_code_14) rfl rfl rfl ?_
  refine own_lloadN X7 hx (hb hby own_d_prog_27_method_2_code_15) rfl rfl ?_
  have f10 := ((Fo1_revision.other W2 (Or.inr (slot_ne (Or.inr (hw _ (List.mem_of_getElem? (i := 322) rfl))) (Or.inr (hw _ (List.mem_of_getElem? (i := 318) rfl))) (by decide) (t := .long) (t' := (.object "java/lang/String")) (by decide) (by decide)))).other W7 (Or.inr (slot_ne (Or.inr (hw _ (List.mem_of_getElem? (i := 322) rfl))) (Or.inr (hw _ (List.mem_of_getElem? (i := 320) rfl))) (by decide) (t := .long) (t' := (.object "java/lang/String")) (by decide) (by decide))))
  have f11 := (f6.wr W7)
  refine own_putF X7 hx hZ hown (host := "") (Or.inl (hw _ (List.mem_of_getElem? (i := 321) rfl))) Via.refl e7 f10 f11 (Or.inr ⟨(hw _ (List.mem_of_getElem? (i := 322) rfl)), rfl, hnm⟩) (hw _ (List.mem_of_getElem? (i := 1) rfl)) (ty := .long) (by decide) rfl rfl N7 g_o1 (hb hby own_d_prog_27_method_2_code_16) rfl ?_
  intro T12 h12 X12 e12 W12 N12
  have K13 := K8.wr W12 (Or.inl (List.mem_of_getElem? (i := 0) rfl))
  have f14 := f10.same W12
  refine own_aloadN X12 hx (hb hby own_d_prog_27_method_2_code_19) rfl rfl rfl ?_
  refine own_aload X12 hx (hb hby own_d_prog_27_method_2_code_20) rfl rfl rfl ?_
  refine own_aconst_null X12 hx (hb hby own_d_prog_27_method_2_code_22) rfl ?_
  have f15 := (((F1.other W2 (Or.inl (ne_exa E1 E0 (by decide)))).other W7 (Or.inl (ne_exa E1 E0 (by decide)))).other W12 (Or.inl (ne_exa E1 E0 (by decide))))
  have f17 := (((E1.wr W2).wr W7).wr W12)
  refine own_virtual X12 hx hZ (y := (⟨"java/util/Optional", "orElse", "(Ljava/lang/Object;)Ljava/lang/Object;"⟩ : MethodName)) (z := (⟨"java/util/Optional", "orElse", "(Ljava/lang/Object;)Ljava/lang/Object;"⟩ : MethodName)) hown (hw _ (List.mem_of_getElem? (i := 323) rfl)) (hw _ (List.mem_of_getElem? (i := 324) rfl)) (notFace_of_selects (args := #[]) (mvT hZ (hw _ (List.mem_of_getElem? (i := 326) rfl)))) (hw _ (List.mem_of_getElem? (i := 326) rfl)) (hw _ (List.mem_of_getElem? (i := 325) rfl)) (hw _ (List.mem_of_getElem? (i := 301) rfl)) (hw _ (List.mem_of_getElem? (i := 327) rfl)) (by decide) e12 (by decide) (W := 1) (by decide) (by decide) (by decide) [.null] [(.ref o1)] (by rw [hml]; rfl) f17 (own_orEN l Z a0 hw op h12 n0 f15) own_pd22 rfl rfl rfl (hb hby own_d_prog_27_method_2_code_23) rfl ?_
  intro v16 T16 L16 X16 hQ16
  obtain ⟨rfl, Nq16, hh16⟩ := hQ16
  have N16 := Fr.app N12 Nq16
  show own_Ends p e below _ (T16.setTop (mkF m 26 #[.val (.ref o1), .val (.ref g1), .val (.ref g2), .val (.long rv), .second, .val (.ref op), .val (.int (1 : Int32)), .val (.long bg), .second] [.null, (.ref o1)]))
  refine own_castN X16 hx (hb hby own_d_prog_27_method_2_code_26) rfl ?_
  have f18 := (((Fo1_inside.other W2 (Or.inr (slot_ne (Or.inr (hw _ (List.mem_of_getElem? (i := 331) rfl))) (Or.inr (hw _ (List.mem_of_getElem? (i := 318) rfl))) (by decide) (t := (.object "com/example/lockstitch/lockstitch/engine/tree/ResourcePath")) (t' := (.object "java/lang/String")) (by decide) (by decide)))).other W7 (Or.inr (slot_ne (Or.inr (hw _ (List.mem_of_getElem? (i := 331) rfl))) (Or.inr (hw _ (List.mem_of_getElem? (i := 320) rfl))) (by decide) (t := (.object "com/example/lockstitch/lockstitch/engine/tree/ResourcePath")) (t' := (.object "java/lang/String")) (by decide) (by decide)))).other W12 (Or.inr (slot_ne (Or.inr (hw _ (List.mem_of_getElem? (i := 331) rfl))) (Or.inr (hw _ (List.mem_of_getElem? (i := 322) rfl))) (by decide) (t := (.object "com/example/lockstitch/lockstitch/engine/tree/ResourcePath")) (t' := .long) (by decide) (by decide))))
  have f19 := (f11.wr W12)
  refine own_putF X16 hx hZ hown (host := "") (Or.inl (hw _ (List.mem_of_getElem? (i := 330) rfl))) Via.refl hh16 f18 f19 (Or.inr ⟨(hw _ (List.mem_of_getElem? (i := 331) rfl)), rfl, hnm⟩) (hw _ (List.mem_of_getElem? (i := 1) rfl)) (ty := (.object "com/example/lockstitch/lockstitch/engine/tree/ResourcePath")) (by decide) rfl rfl N16 g_o1 (hb hby own_d_prog_27_method_2_code_29) rfl ?_
  intro T20 h20 X20 e20 W20 N20
  have K21 := K13.wr W20 (Or.inl (List.mem_of_getElem? (i := 0) rfl))
  have f22 := f18.same W20
  refine own_aloadN X20 hx (hb hby own_d_prog_27_method_2_code_32) rfl rfl rfl ?_
  refine own_iload X20 hx (hb hby own_d_prog_27_method_2_code_33) rfl rfl ?_
  refine own_ifF X20 hx (hb hby own_d_prog_27_method_2_code_35) rfl (by decide) ?_
  refine own_aload X20 hx (hb hby own_d_prog_27_method_2_code_38) rfl rfl rfl ?_
  have f23 := (f15.other W20 (Or.inl (ne_exa E1 E0 (by decide))))
  have f25 := (f17.wr W20)
  refine own_virtual X20 hx hZ (y := (⟨"java/util/Optional", "isPresent", "()Z"⟩ : MethodName)) (z := (⟨"java/util/Optional", "isPresent", "()Z"⟩ : MethodName)) hown (hw _ (List.mem_of_getElem? (i := 332) rfl)) (hw _ (List.mem_of_getElem? (i := 333) rfl)) (notFace_of_selects (args := #[]) (mvT hZ (hw _ (List.mem_of_getElem? (i := 335) rfl)))) (hw _ (List.mem_of_getElem? (i := 335) rfl)) (hw _ (List.mem_of_getElem? (i := 334) rfl)) (hw _ (List.mem_of_getElem? (i := 301) rfl)) (hw _ (List.mem_of_getElem? (i := 336) rfl)) (by decide) e20 (by decide) (W := 1) (by decide) (by decide) (by decide) [] [(.ref o1)] (by rw [hml]; rfl) f25 (own_isPN l Z a0 hw op h20 n0 f23) own_pd14 rfl rfl rfl (hb hby own_d_prog_27_method_2_code_40) rfl ?_
  intro v24 T24 L24 X24 hQ24
  obtain ⟨rfl, Nq24, hh24⟩ := hQ24
  have N24 := Fr.app N20 Nq24
  show own_Ends p e below _ (T24.setTop (mkF m 43 #[.val (.ref o1), .val (.ref g1), .val (.ref g2), .val (.long rv), .second, .val (.ref op), .val (.int (1 : Int32)), .val (.long bg), .second] [(.int (0 : Int32)), (.ref o1)]))
  refine own_ifT X24 hx (hb hby own_d_prog_27_method_2_code_43) (by decide) rfl (by decide) ?_
  refine own_iconst X24 hx (0 : Int32) (hb hby own_d_prog_27_method_2_code_50) (by decide) rfl ?_
  have f26 := ((((Fo1_asFile.other W2 (Or.inr (slot_ne (Or.inr (hw _ (List.mem_of_getElem? (i := 338) rfl))) (Or.inr (hw _ (List.mem_of_getElem? (i := 318) rfl))) (by decide) (t := .boolean) (t' := (.object "java/lang/String")) (by decide) (by decide)))).other W7 (Or.inr (slot_ne (Or.inr (hw _ (List.mem_of_getElem? (i := 338) rfl))) (Or.inr (hw _ (List.mem_of_getElem? (i := 320) rfl))) (by decide) (t := .boolean) (t' := (.object "java/lang/String")) (by decide) (by decide)))).other W12 (Or.inr (slot_ne (Or.inr (hw _ (List.mem_of_getElem? (i := 338) rfl))) (Or.inr (hw _ (List.mem_of_getElem? (i := 322) rfl))) (by decide) (t := .boolean) (t' := .long) (by decide) (by decide)))).other W20 (Or.inr (slot_ne (Or.inr (hw _ (List.mem_of_getElem? (i := 338) rfl))) (Or.inr (hw _ (List.mem_of_getElem? (i := 331) rfl))) (by decide) (t := .boolean) (t' := (.object "com/example/lockstitch/lockstitch/engine/tree/ResourcePath")) (by decide) (by decide))))
  have f27 := (f19.wr W20)
  refine own_putFN X24 hx hZ hown (hw _ (List.mem_of_getElem? (i := 337) rfl)) Via.refl hh24 (.int (0 : Int32)) f26 f27 (Or.inr ⟨(hw _ (List.mem_of_getElem? (i := 338) rfl)), rfl, hnm⟩) (hw _ (List.mem_of_getElem? (i := 1) rfl)) (ty := .boolean) (by decide) rfl rfl N24 g_o1 (hb hby own_d_prog_27_method_2_code_51) rfl ?_
  intro T28 h28 X28 e28 W28 N28
  have K29 := K21.wr W28 (Or.inl (List.mem_of_getElem? (i := 0) rfl))
  have f30 := f26.same W28
  refine own_aloadN X28 hx (hb hby own_d_prog_27_method_2_code_54) rfl rfl rfl ?_
  refine own_lload X28 hx (hb hby own_d_prog_27_method_2_code_55) rfl rfl ?_
  refine own_aloadN X28 hx (hb hby own_d_prog_27_method_2_code_57) rfl rfl rfl ?_
  have f31 := (f22.other W28 (Or.inr (slot_ne (Or.inr (hw _ (List.mem_of_getElem? (i := 331) rfl))) (Or.inr (hw _ (List.mem_of_getElem? (i := 338) rfl))) (by decide) (t := (.object "com/example/lockstitch/lockstitch/engine/tree/ResourcePath")) (t' := .boolean) (by decide) (by decide))))
  have f32 := ((f14.other W20 (Or.inr (slot_ne (Or.inr (hw _ (List.mem_of_getElem? (i := 322) rfl))) (Or.inr (hw _ (List.mem_of_getElem? (i := 331) rfl))) (by decide) (t := .long) (t' := (.object "com/example/lockstitch/lockstitch/engine/tree/ResourcePath")) (by decide) (by decide)))).other W28 (Or.inr (slot_ne (Or.inr (hw _ (List.mem_of_getElem? (i := 322) rfl))) (Or.inr (hw _ (List.mem_of_getElem? (i := 338) rfl))) (by decide) (t := .long) (t' := .boolean) (by decide) (by decide))))
  have f34 := (f27.wr W28)
  refine own_virtual X28 hx hZ (y := (⟨"com/example/lockstitch/lockstitch/engine/tree/SyncToken", "wholeUpTo", "()J"⟩ : MethodName)) (z := (⟨"com/example/lockstitch/lockstitch/engine/tree/SyncToken", "wholeUpTo", "()J"⟩ : MethodName)) hown (hw _ (List.mem_of_getElem? (i := 339) rfl)) (hw _ (List.mem_of_getElem? (i := 340) rfl)) (notFace_of_selects (args := #[]) (mvT hZ (hw _ (List.mem_of_getElem? (i := 342) rfl)))) (hw _ (List.mem_of_getElem? (i := 342) rfl)) (hw _ (List.mem_of_getElem? (i := 341) rfl)) (hw _ (List.mem_of_getElem? (i := 2) rfl)) (hw _ (List.mem_of_getElem? (i := 343) rfl)) (by decide) e28 (by decide) (W := 3) (by decide) (by decide) (by decide) [] [(.long bg), (.ref o1)] (by rw [hml]; rfl) f34 (own_whoN l Z a0 hw o1 rv h28 n0 f31 f32) own_pd26 rfl rfl rfl (hb hby own_d_prog_27_method_2_code_58) rfl ?_
  intro v33 T33 L33 X33 hQ33
  obtain ⟨rfl, Nq33, hh33⟩ := hQ33
  have N33 := Fr.app N28 Nq33
  show own_Ends p e below _ (T33.setTop (mkF m 61 #[.val (.ref o1), .val (.ref g1), .val (.ref g2), .val (.long rv), .second, .val (.ref op), .val (.int (1 : Int32)), .val (.long bg), .second] [(.long rv), (.long bg), (.ref o1)]))
  refine own_static X33 hx hZ (y := (⟨"java/lang/Math", "min", "(JJ)J"⟩ : MethodName)) hown (hw _ (List.mem_of_getElem? (i := 344) rfl)) (hw _ (List.mem_of_getElem? (i := 345) rfl)) (hw _ (List.mem_of_getElem? (i := 121) rfl)) (hw _ (List.mem_of_getElem? (i := 346) rfl)) (by decide) hh33 (by decide) (W := 1) (by decide) (by decide) (by decide) [(.long bg), (.long rv)] [(.ref o1)] (by rw [hml]; rfl) (own_mnL l Z a0 hw bg rv h28 n0) own_pd27 rfl rfl rfl (hb hby own_d_prog_27_method_2_code_61) rfl ?_
  intro v35 T35 L35 X35 hQ35
  obtain ⟨rfl, Nq35, hh35⟩ := hQ35
  have N35 := Fr.app N33 Nq35
  show own_Ends p e below _ (T35.setTop (mkF m 64 #[.val (.ref o1), .val (.ref g1), .val (.ref g2), .val (.long rv), .second, .val (.ref op), .val (.int (1 : Int32)), .val (.long bg), .second] [(.long (own_minL bg rv)), (.ref o1)]))
  have f36 := (((((Fo1_begun.other W2 (Or.inr (slot_ne (Or.inr (hw _ (List.mem_of_getElem? (i := 348) rfl))) (Or.inr (hw _ (List.mem_of_getElem? (i := 318) rfl))) (by decide) (t := .long) (t' := (.object "java/lang/String")) (by decide) (by decide)))).other W7 (Or.inr (slot_ne (Or.inr (hw _ (List.mem_of_getElem? (i := 348) rfl))) (Or.inr (hw _ (List.mem_of_getElem? (i := 320) rfl))) (by decide) (t := .long) (t' := (.object "java/lang/String")) (by decide) (by decide)))).other W12 (Or.inr (slot_ne (Or.inr (hw _ (List.mem_of_getElem? (i := 348) rfl))) (Or.inr (hw _ (List.mem_of_getElem? (i := 322) rfl))) (by decide) (t := .long) (t' := .long) (by decide) (by decide)))).other W20 (Or.inr (slot_ne (Or.inr (hw _ (List.mem_of_getElem? (i := 348) rfl))) (Or.inr (hw _ (List.mem_of_getElem? (i := 331) rfl))) (by decide) (t := .long) (t' := (.object "com/example/lockstitch/lockstitch/engine/tree/ResourcePath")) (by decide) (by decide)))).other W28 (Or.inr (slot_ne (Or.inr (hw _ (List.mem_of_getElem? (i := 348) rfl))) (Or.inr (hw _ (List.mem_of_getElem? (i := 338) rfl))) (by decide) (t := .long) (t' := .boolean) (by decide) (by decide))))
  refine own_putF X35 hx hZ hown (host := "") (Or.inl (hw _ (List.mem_of_getElem? (i := 347) rfl))) Via.refl hh35 f36 f34 (Or.inr ⟨(hw _ (List.mem_of_getElem? (i := 348) rfl)), rfl, hnm⟩) (hw _ (List.mem_of_getElem? (i := 1) rfl)) (ty := .long) (by decide) rfl rfl N35 g_o1 (hb hby own_d_prog_27_method_2_code_64) rfl ?_
  intro T37 h37 X37 e37 W37 N37
  have K38 := K29.wr W37 (Or.inl (List.mem_of_getElem? (i := 0) rfl))
  have f39 := f36.same W37
  have f40 := (f34.wr W37)
  have f41 := (f32.other W37 (Or.inr (slot_ne (Or.inr (hw _ (List.mem_of_getElem? (i := 322) rfl))) (Or.inr (hw _ (List.mem_of_getElem? (i := 348) rfl))) (by decide) (t := .long) (t' := .long) (by decide) (by decide))))
  have f42 := (f31.other W37 (Or.inr (slot_ne (Or.inr (hw _ (List.mem_of_getElem? (i := 331) rfl))) (Or.inr (hw _ (List.mem_of_getElem? (i := 348) rfl))) (by decide) (t := (.object "com/example/lockstitch/lockstitch/engine/tree/ResourcePath")) (t' := .long) (by decide) (by decide))))
  exact own_ret X37 hx hlocks hret (hb hby own_d_prog_27_method_2_code_67) (by decide) (by decide) ⟨rfl, N37, by rw [e37]; exact ⟨K38, f40, f41, f42, f39⟩⟩
set_option maxRecDepth 65536 in
set_option maxHeartbeats 40000000 in
theorem own_stiR0 (l : Launch) (Z : State) (a0 : Array Value) (hw : ∀ d ∈ tables_1, d.before a0 Z = true) (o1 g1 g2 op x1 : Addr) (rv bg : Int64) (h0 : Heap) (n0 : Nat) (g_o1 : n0 ≤ o1) (E0 : Exa Z h0 o1 "com/example/lockstitch/lockstitch/engine/tree/SyncToken") (D0 : (∀ {O nm d : String} {ty : FieldType}, Laid Z a0 "com/example/lockstitch/lockstitch/engine/tree/SyncToken" O nm d → parseFieldDescriptor d = some ty → Fld Z h0 o1 O nm d (defaultValue ty))) (E1 : Exa Z h0 op "java/util/Optional") (F1 : Fld Z h0 op "java/util/Optional" "value" "Ljava/lang/Object;" (.ref x1)) (E2 : Exa Z h0 x1 "com/example/lockstitch/lockstitch/engine/tree/ResourcePath") :
    own_Met l (⟨"com/example/lockstitch/lockstitch/engine/tree/SyncToken", "<init>", "(Ljava/lang/String;Ljava/lang/String;JLjava/util/Optional;ZJ)V"⟩ : MethodName) prog_27_method_2_code 9 none ({ frames := 1, cells := 0, slots := 0, locals := 16 } : Room) Z #[(.ref o1), (.ref g1), (.ref g2), (.long rv), (.ref op), (.int (0 : Int32)), (.long bg)] h0 (fun v h L => v = none ∧ Fr n0 L ∧ Keep h0 h [o1] ∧ Exa Z h o1 "com/example/lockstitch/lockstitch/engine/tree/SyncToken" ∧ Fld Z h o1 "com/example/lockstitch/lockstitch/engine/tree/SyncToken" "revision" "J" (.long rv) ∧ Fld Z h o1 "com/example/lockstitch/lockstitch/engine/tree/SyncToken" "inside" "Lcom/example/lockstitch/lockstitch/engine/tree/ResourcePath;" (.ref x1) ∧ Fld Z h o1 "com/example/lockstitch/lockstitch/engine/tree/SyncToken" "begun" "J" (.long (own_minL bg (rv - (1 : Int64))))) := by
  refine own_met (plainFor_of_name own_pn_com_example_lockstitch_lockstitch_engine_tree_SyncToken) ?_
  intro p e s m below meth c T0 hx hby hml hZ hown hnm hret hlocks X0 e0 hh0
  have ef : entryFrame m #[(.ref o1), (.ref g1), (.ref g2), (.long rv), (.ref op), (.int (0 : Int32)), (.long bg)] 9 = mkF m 0 #[.val (.ref o1), .val (.ref g1), .val (.ref g2), .val (.long rv), .second, .val (.ref op), .val (.int (0 : Int32)), .val (.long bg), .second] [] := by first | (simp [entryFrame, mkF, argsToLocals, Value.category]; done) | rfl
  refine own_entry ef ?_
  have N0 := Fr.nil n0
  have K0 := Keep.refl h0 [o1]
  have Fo1_history : Fld Z h0 o1 "com/example/lockstitch/lockstitch/engine/tree/SyncToken" "history" "Ljava/lang/String;" .null := D0 (Or.inr (hw _ (List.mem_of_getElem? (i := 318) rfl))) (ty := (.object "java/lang/String")) (by decide)
  have Fo1_collection : Fld Z h0 o1 "com/example/lockstitch/lockstitch/engine/tree/SyncToken" "collection" "Ljava/lang/String;" .null := D0 (Or.inr (hw _ (List.mem_of_getElem? (i := 320) rfl))) (ty := (.object "java/lang/String")) (by decide)
  have Fo1_revision : Fld Z h0 o1 "com/example/lockstitch/lockstitch/engine/tree/SyncToken" "revision" "J" (.long (0 : Int64)) := D0 (Or.inr (hw _ (List.mem_of_getElem? (i := 322) rfl))) (ty := .long) (by decide)
  have Fo1_inside : Fld Z h0 o1 "com/example/lockstitch/lockstitch/engine/tree/SyncToken" "inside" "Lcom/example/lockstitch/lockstitch/engine/tree/ResourcePath;" .null := D0 (Or.inr (hw _ (List.mem_of_getElem? (i := 331) rfl))) (ty := (.object "com/example/lockstitch/lockstitch/engine/tree/ResourcePath")) (by decide)
  have Fo1_asFile : Fld Z h0 o1 "com/example/lockstitch/lockstitch/engine/tree/SyncToken" "asFile" "Z" (.int (0 : Int32)) := D0 (Or.inr (hw _ (List.mem_of_getElem? (i := 338) rfl))) (ty := .boolean) (by decide)
  have Fo1_begun : Fld Z h0 o1 "com/example/lockstitch/lockstitch/engine/tree/SyncToken" "begun" "J" (.long (0 : Int64)) := D0 (Or.inr (hw _ (List.mem_of_getElem? (i := 348) rfl))) (ty := .long) (by decide)
  refine own_aloadN X0 hx (hb hby own_d_prog_27_method_2_code_0) rfl rfl rfl ?_
  refine own_initO X0 hx hZ hown (hw _ (List.mem_of_getElem? (i := 316) rfl)) (hw _ (List.mem_of_getElem? (i := 35) rfl)) (hw _ (List.mem_of_getElem? (i := 36) rfl)) e0 (by rw [hml]; rfl) (hb hby own_d_prog_27_method_2_code_1) 0 rfl (by decide) (by decide) rfl ?_
  intro T1 X1 e1
  refine own_aloadN X1 hx (hb hby own_d_prog_27_method_2_code_4) rfl rfl rfl ?_
  refine own_aloadN X1 hx (hb hby own_d_prog_27_method_2_code_5) rfl rfl rfl ?_
  refine own_putF X1 hx hZ hown (host := "") (Or.inl (hw _ (List.mem_of_getElem? (i := 317) rfl))) Via.refl e1 Fo1_history E0 (Or.inr ⟨(hw _ (List.mem_of_getElem? (i := 318) rfl)), rfl, hnm⟩) (hw _ (List.mem_of_getElem? (i := 1) rfl)) (ty := (.object "java/lang/String")) (by decide) rfl rfl N0 g_o1 (hb hby own_d_prog_27_method_2_code_6) rfl ?_
  intro T2 h2 X2 e2 W2 N2
  have K3 := K0.wr W2 (Or.inl (List.mem_of_getElem? (i := 0) rfl))
  have f4 := Fo1_history.same W2
  refine own_aloadN X2 hx (hb hby own_d_prog_27_method_2_code_9) rfl rfl rfl ?_
  refine own_aloadN X2 hx (hb hby own_d_prog_27_method_2_code_10) rfl rfl rfl ?_
  have f5 := (Fo1_collection.other W2 (Or.inr (slot_ne (Or.inr (hw _ (List.mem_of_getElem? (i := 320) rfl))) (Or.inr (hw _ (List.mem_of_getElem? (i := 318) rfl))) (by decide) (t := (.object "java/lang/String")) (t' := (.object "java/lang/String")) (by decide) (by decide))))
  have f6 := (E0.wr W2)
  refine own_putF X2 hx hZ hown (host := "") (Or.inl (hw _ (List.mem_of_getElem? (i := 319) rfl))) Via.refl e2 f5 f6 (Or.inr ⟨(hw _ (List.mem_of_getElem? (i := 320) rfl)), rfl, hnm⟩) (hw _ (List.mem_of_getElem? (i := 1) rfl)) (ty := (.object "java/lang/String")) (by decide) rfl rfl N2 g_o1 (hb hby own_d_prog_27_method_2_code_11) rfl ?_
  intro T7 h7 X7 e7 W7 N7
  have K8 := K3.wr W7 (Or.inl (List.mem_of_getElem? (i := 0) rfl))
  have f9 := f5.same W7
  refine own_aloadN X7 hx (hb hby own_d_prog_27_method_2_code_14) rfl rfl rfl ?_
  refine own_lloadN X7 hx (hb hby own_d_prog_27_method_2_code_15) rfl rfl ?_
  have f10 := ((Fo1_revision.other W2 (Or.inr (slot_ne (Or.inr (hw _ (List.mem_of_getElem? (i := 322) rfl))) (Or.inr (hw _ (List.mem_of_getElem? (i := 318) rfl))) (by decide) (t := .long) (t' := (.object "java/lang/String")) (by decide) (by decide)))).other W7 (Or.inr (slot_ne (Or.inr (hw _ (List.mem_of_getElem? (i := 322) rfl))) (Or.inr (hw _ (List.mem_of_getElem? (i := 320) rfl))) (by decide) (t := .long) (t' := (.object "java/lang/String")) (by decide) (by decide))))
  have f11 := (f6.wr W7)
  refine own_putF X7 hx hZ hown (host := "") (Or.inl (hw _ (List.mem_of_getElem? (i := 321) rfl))) Via.refl e7 f10 f11 (Or.inr ⟨(hw _ (List.mem_of_getElem? (i := 322) rfl)), rfl, hnm⟩) (hw _ (List.mem_of_getElem? (i := 1) rfl)) (ty := .long) (by decide) rfl rfl N7 g_o1 (hb hby own_d_prog_27_method_2_code_16) rfl ?_
  intro T12 h12 X12 e12 W12 N12
  have K13 := K8.wr W12 (Or.inl (List.mem_of_getElem? (i := 0) rfl))
  have f14 := f10.same W12
  refine own_aloadN X12 hx (hb hby own_d_prog_27_method_2_code_19) rfl rfl rfl ?_
  refine own_aload X12 hx (hb hby own_d_prog_27_method_2_code_20) rfl rfl rfl ?_
  refine own_aconst_null X12 hx (hb hby own_d_prog_27_method_2_code_22) rfl ?_
  have f15 := (((F1.other W2 (Or.inl (ne_exa E1 E0 (by decide)))).other W7 (Or.inl (ne_exa E1 E0 (by decide)))).other W12 (Or.inl (ne_exa E1 E0 (by decide))))
  have f17 := (((E1.wr W2).wr W7).wr W12)
  refine own_virtual X12 hx hZ (y := (⟨"java/util/Optional", "orElse", "(Ljava/lang/Object;)Ljava/lang/Object;"⟩ : MethodName)) (z := (⟨"java/util/Optional", "orElse", "(Ljava/lang/Object;)Ljava/lang/Object;"⟩ : MethodName)) hown (hw _ (List.mem_of_getElem? (i := 323) rfl)) (hw _ (List.mem_of_getElem? (i := 324) rfl)) (notFace_of_selects (args := #[]) (mvT hZ (hw _ (List.mem_of_getElem? (i := 326) rfl)))) (hw _ (List.mem_of_getElem? (i := 326) rfl)) (hw _ (List.mem_of_getElem? (i := 325) rfl)) (hw _ (List.mem_of_getElem? (i := 301) rfl)) (hw _ (List.mem_of_getElem? (i := 327) rfl)) (by decide) e12 (by decide) (W := 1) (by decide) (by decide) (by decide) [.null] [(.ref o1)] (by rw [hml]; rfl) f17 (own_orER l Z a0 hw op x1 h12 n0 f15) own_pd22 rfl rfl rfl (hb hby own_d_prog_27_method_2_code_23) rfl ?_
  intro v16 T16 L16 X16 hQ16
  obtain ⟨rfl, Nq16, hh16⟩ := hQ16
  have N16 := Fr.app N12 Nq16
  show own_Ends p e below _ (T16.setTop (mkF m 26 #[.val (.ref o1), .val (.ref g1), .val (.ref g2), .val (.long rv), .second, .val (.ref op), .val (.int (0 : Int32)), .val (.long bg), .second] [(.ref x1), (.ref o1)]))
  have f19 := (((E2.wr W2).wr W7).wr W12)
  refine own_castY X16 hx hZ hown (hw _ (List.mem_of_getElem? (i := 328) rfl)) hh16 (Ins.self f19) (hb hby own_d_prog_27_method_2_code_26) rfl ?_
  intro T18 X18 e18
  have f20 := (((Fo1_inside.other W2 (Or.inr (slot_ne (Or.inr (hw _ (List.mem_of_getElem? (i := 331) rfl))) (Or.inr (hw _ (List.mem_of_getElem? (i := 318) rfl))) (by decide) (t := (.object "com/example/lockstitch/lockstitch/engine/tree/ResourcePath")) (t' := (.object "java/lang/String")) (by decide) (by decide)))).other W7 (Or.inr (slot_ne (Or.inr (hw _ (List.mem_of_getElem? (i := 331) rfl))) (Or.inr (hw _ (List.mem_of_getElem? (i := 320) rfl))) (by decide) (t := (.object "com/example/lockstitch/lockstitch/engine/tree/ResourcePath")) (t' := (.object "java/lang/String")) (by decide) (by decide)))).other W12 (Or.inr (slot_ne (Or.inr (hw _ (List.mem_of_getElem? (i := 331) rfl))) (Or.inr (hw _ (List.mem_of_getElem? (i := 322) rfl))) (by decide) (t := (.object "com/example/lockstitch/lockstitch/engine/tree/ResourcePath")) (t' := .long) (by decide) (by decide))))
  have f21 := (f11.wr W12)
  refine own_putF X18 hx hZ hown (host := "") (Or.inl (hw _ (List.mem_of_getElem? (i := 330) rfl))) Via.refl e18 f20 f21 (Or.inr ⟨(hw _ (List.mem_of_getElem? (i := 331) rfl)), rfl, hnm⟩) (hw _ (List.mem_of_getElem? (i := 1) rfl)) (ty := (.object "com/example/lockstitch/lockstitch/engine/tree/ResourcePath")) (by decide) rfl rfl N16 g_o1 (hb hby own_d_prog_27_method_2_code_29) rfl ?_
  intro T22 h22 X22 e22 W22 N22
  have K23 := K13.wr W22 (Or.inl (List.mem_of_getElem? (i := 0) rfl))
  have f24 := f20.same W22
  refine own_aloadN X22 hx (hb hby own_d_prog_27_method_2_code_32) rfl rfl rfl ?_
  refine own_iload X22 hx (hb hby own_d_prog_27_method_2_code_33) rfl rfl ?_
  refine own_ifT X22 hx (hb hby own_d_prog_27_method_2_code_35) (by decide) rfl (by decide) ?_
  refine own_iconst X22 hx (0 : Int32) (hb hby own_d_prog_27_method_2_code_50) (by decide) rfl ?_
  have f25 := ((((Fo1_asFile.other W2 (Or.inr (slot_ne (Or.inr (hw _ (List.mem_of_getElem? (i := 338) rfl))) (Or.inr (hw _ (List.mem_of_getElem? (i := 318) rfl))) (by decide) (t := .boolean) (t' := (.object "java/lang/String")) (by decide) (by decide)))).other W7 (Or.inr (slot_ne (Or.inr (hw _ (List.mem_of_getElem? (i := 338) rfl))) (Or.inr (hw _ (List.mem_of_getElem? (i := 320) rfl))) (by decide) (t := .boolean) (t' := (.object "java/lang/String")) (by decide) (by decide)))).other W12 (Or.inr (slot_ne (Or.inr (hw _ (List.mem_of_getElem? (i := 338) rfl))) (Or.inr (hw _ (List.mem_of_getElem? (i := 322) rfl))) (by decide) (t := .boolean) (t' := .long) (by decide) (by decide)))).other W22 (Or.inr (slot_ne (Or.inr (hw _ (List.mem_of_getElem? (i := 338) rfl))) (Or.inr (hw _ (List.mem_of_getElem? (i := 331) rfl))) (by decide) (t := .boolean) (t' := (.object "com/example/lockstitch/lockstitch/engine/tree/ResourcePath")) (by decide) (by decide))))
  have f26 := (f21.wr W22)
  refine own_putFN X22 hx hZ hown (hw _ (List.mem_of_getElem? (i := 337) rfl)) Via.refl e22 (.int (0 : Int32)) f25 f26 (Or.inr ⟨(hw _ (List.mem_of_getElem? (i := 338) rfl)), rfl, hnm⟩) (hw _ (List.mem_of_getElem? (i := 1) rfl)) (ty := .boolean) (by decide) rfl rfl N22 g_o1 (hb hby own_d_prog_27_method_2_code_51) rfl ?_
  intro T27 h27 X27 e27 W27 N27
  have K28 := K23.wr W27 (Or.inl (List.mem_of_getElem? (i := 0) rfl))
  have f29 := f25.same W27
  refine own_aloadN X27 hx (hb hby own_d_prog_27_method_2_code_54) rfl rfl rfl ?_
  refine own_lload X27 hx (hb hby own_d_prog_27_method_2_code_55) rfl rfl ?_
  refine own_aloadN X27 hx (hb hby own_d_prog_27_method_2_code_57) rfl rfl rfl ?_
  have f30 := (f24.other W27 (Or.inr (slot_ne (Or.inr (hw _ (List.mem_of_getElem? (i := 331) rfl))) (Or.inr (hw _ (List.mem_of_getElem? (i := 338) rfl))) (by decide) (t := (.object "com/example/lockstitch/lockstitch/engine/tree/ResourcePath")) (t' := .boolean) (by decide) (by decide))))
  have f31 := ((f14.other W22 (Or.inr (slot_ne (Or.inr (hw _ (List.mem_of_getElem? (i := 322) rfl))) (Or.inr (hw _ (List.mem_of_getElem? (i := 331) rfl))) (by decide) (t := .long) (t' := (.object "com/example/lockstitch/lockstitch/engine/tree/ResourcePath")) (by decide) (by decide)))).other W27 (Or.inr (slot_ne (Or.inr (hw _ (List.mem_of_getElem? (i := 322) rfl))) (Or.inr (hw _ (List.mem_of_getElem? (i := 338) rfl))) (by decide) (t := .long) (t' := .boolean) (by decide) (by decide))))
  have f33 := (f26.wr W27)
  refine own_virtual X27 hx hZ (y := (⟨"com/example/lockstitch/lockstitch/engine/tree/SyncToken", "wholeUpTo", "()J"⟩ : MethodName)) (z := (⟨"com/example/lockstitch/lockstitch/engine/tree/SyncToken", "wholeUpTo", "()J"⟩ : MethodName)) hown (hw _ (List.mem_of_getElem? (i := 339) rfl)) (hw _ (List.mem_of_getElem? (i := 340) rfl)) (notFace_of_selects (args := #[]) (mvT hZ (hw _ (List.mem_of_getElem? (i := 342) rfl)))) (hw _ (List.mem_of_getElem? (i := 342) rfl)) (hw _ (List.mem_of_getElem? (i := 341) rfl)) (hw _ (List.mem_of_getElem? (i := 2) rfl)) (hw _ (List.mem_of_getElem? (i := 343) rfl)) (by decide) e27 (by decide) (W := 3) (by decide) (by decide) (by decide) [] [(.long bg), (.ref o1)] (by rw [hml]; rfl) f33 (own_whoR l Z a0 hw o1 x1 rv h27 n0 f30 f31) own_pd26 rfl rfl rfl (hb hby own_d_prog_27_method_2_code_58) rfl ?_
  intro v32 T32 L32 X32 hQ32
  obtain ⟨rfl, Nq32, hh32⟩ := hQ32
  have N32 := Fr.app N27 Nq32
  show own_Ends p e below _ (T32.setTop (mkF m 61 #[.val (.ref o1), .val (.ref g1), .val (.ref g2), .val (.long rv), .second, .val (.ref op), .val (.int (0 : Int32)), .val (.long bg), .second] [(.long (rv - (1 : Int64))), (.long bg), (.ref o1)]))
  refine own_static X32 hx hZ (y := (⟨"java/lang/Math", "min", "(JJ)J"⟩ : MethodName)) hown (hw _ (List.mem_of_getElem? (i := 344) rfl)) (hw _ (List.mem_of_getElem? (i := 345) rfl)) (hw _ (List.mem_of_getElem? (i := 121) rfl)) (hw _ (List.mem_of_getElem? (i := 346) rfl)) (by decide) hh32 (by decide) (W := 1) (by decide) (by decide) (by decide) [(.long bg), (.long (rv - (1 : Int64)))] [(.ref o1)] (by rw [hml]; rfl) (own_mnL l Z a0 hw bg (rv - (1 : Int64)) h27 n0) own_pd27 rfl rfl rfl (hb hby own_d_prog_27_method_2_code_61) rfl ?_
  intro v34 T34 L34 X34 hQ34
  obtain ⟨rfl, Nq34, hh34⟩ := hQ34
  have N34 := Fr.app N32 Nq34
  show own_Ends p e below _ (T34.setTop (mkF m 64 #[.val (.ref o1), .val (.ref g1), .val (.ref g2), .val (.long rv), .second, .val (.ref op), .val (.int (0 : Int32)), .val (.long bg), .second] [(.long (own_minL bg (rv - (1 : Int64)))), (.ref o1)]))
  have f35 := (((((Fo1_begun.other W2 (Or.inr (slot_ne (Or.inr (hw _ (List.mem_of_getElem? (i := 348) rfl))) (Or.inr (hw _ (List.mem_of_getElem? (i := 318) rfl))) (by decide) (t := .long) (t' := (.object "java/lang/String")) (by decide) (by decide)))).other W7 (Or.inr (slot_ne (Or.inr (hw _ (List.mem_of_getElem? (i := 348) rfl))) (Or.inr (hw _ (List.mem_of_getElem? (i := 320) rfl))) (by decide) (t := .long) (t' := (.object "java/lang/String")) (by decide) (by decide)))).other W12 (Or.inr (slot_ne (Or.inr (hw _ (List.mem_of_getElem? (i := 348) rfl))) (Or.inr (hw _ (List.mem_of_getElem? (i := 322) rfl))) (by decide) (t := .long) (t' := .long) (by decide) (by decide)))).other W22 (Or.inr (slot_ne (Or.inr (hw _ (List.mem_of_getElem? (i := 348) rfl))) (Or.inr (hw _ (List.mem_of_getElem? (i := 331) rfl))) (by decide) (t := .long) (t' := (.object "com/example/lockstitch/lockstitch/engine/tree/ResourcePath")) (by decide) (by decide)))).other W27 (Or.inr (slot_ne (Or.inr (hw _ (List.mem_of_getElem? (i := 348) rfl))) (Or.inr (hw _ (List.mem_of_getElem? (i := 338) rfl))) (by decide) (t := .long) (t' := .boolean) (by decide) (by decide))))
  refine own_putF X34 hx hZ hown (host := "") (Or.inl (hw _ (List.mem_of_getElem? (i := 347) rfl))) Via.refl hh34 f35 f33 (Or.inr ⟨(hw _ (List.mem_of_getElem? (i := 348) rfl)), rfl, hnm⟩) (hw _ (List.mem_of_getElem? (i := 1) rfl)) (ty := .long) (by decide) rfl rfl N34 g_o1 (hb hby own_d_prog_27_method_2_code_64) rfl ?_
  intro T36 h36 X36 e36 W36 N36
  have K37 := K28.wr W36 (Or.inl (List.mem_of_getElem? (i := 0) rfl))
  have f38 := f35.same W36
  have f39 := (f33.wr W36)
  have f40 := (f31.other W36 (Or.inr (slot_ne (Or.inr (hw _ (List.mem_of_getElem? (i := 322) rfl))) (Or.inr (hw _ (List.mem_of_getElem? (i := 348) rfl))) (by decide) (t := .long) (t' := .long) (by decide) (by decide))))
  have f41 := (f30.other W36 (Or.inr (slot_ne (Or.inr (hw _ (List.mem_of_getElem? (i := 331) rfl))) (Or.inr (hw _ (List.mem_of_getElem? (i := 348) rfl))) (by decide) (t := (.object "com/example/lockstitch/lockstitch/engine/tree/ResourcePath")) (t' := .long) (by decide) (by decide))))
  exact own_ret X36 hx hlocks hret (hb hby own_d_prog_27_method_2_code_67) (by decide) (by decide) ⟨rfl, N36, by rw [e36]; exact ⟨K37, f39, f40, f41, f38⟩⟩
set_option maxRecDepth 65536 in
set_option maxHeartbeats 40000000 in
theorem own_stiR1 (l : Launch) (Z : State) (a0 : Array Value) (hw : ∀ d ∈ tables_1, d.before a0 Z = true) (o1 g1 g2 op x1 : Addr) (rv bg : Int64) (h0 : Heap) (n0 : Nat) (g_o1 : n0 ≤ o1) (E0 : Exa Z h0 o1 "com/example/lockstitch/lockstitch/engine/tree/SyncToken") (D0 : (∀ {O nm d : String} {ty : FieldType}, Laid Z a0 "com/example/lockstitch/lockstitch/engine/tree/SyncToken" O nm d → parseFieldDescriptor d = some ty → Fld Z h0 o1 O nm d (defaultValue ty))) (E1 : Exa Z h0 op "java/util/Optional") (F1 : Fld Z h0 op "java/util/Optional" "value" "Ljava/lang/Object;" (.ref x1)) (E2 : Exa Z h0 x1 "com/example/lockstitch/lockstitch/engine/tree/ResourcePath") :
    own_Met l (⟨"com/example/lockstitch/lockstitch/engine/tree/SyncToken", "<init>", "(Ljava/lang/String;Ljava/lang/String;JLjava/util/Optional;ZJ)V"⟩ : MethodName) prog_27_method_2_code 9 none ({ frames := 1, cells := 0, slots := 0, locals := 16 } : Room) Z #[(.ref o1), (.ref g1), (.ref g2), (.long rv), (.ref op), (.int (1 : Int32)), (.long bg)] h0 (fun v h L => v = none ∧ Fr n0 L ∧ Keep h0 h [o1] ∧ Exa Z h o1 "com/example/lockstitch/lockstitch/engine/tree/SyncToken" ∧ Fld Z h o1 "com/example/lockstitch/lockstitch/engine/tree/SyncToken" "revision" "J" (.long rv) ∧ Fld Z h o1 "com/example/lockstitch/lockstitch/engine/tree/SyncToken" "inside" "Lcom/example/lockstitch/lockstitch/engine/tree/ResourcePath;" (.ref x1) ∧ Fld Z h o1 "com/example/lockstitch/lockstitch/engine/tree/SyncToken" "begun" "J" (.long (own_minL bg (rv - (1 : Int64))))) := by
  refine own_met (plainFor_of_name own_pn_com_example_lockstitch_lockstitch_engine_tree_SyncToken) ?_
  intro p e s m below meth c T0 hx hby hml hZ hown hnm hret hlocks X0 e0 hh0
  have ef : entryFrame m #[(.ref o1), (.ref g1), (.ref g2), (.long rv), (.ref op), (.int (1 : Int32)), (.long bg)] 9 = mkF m 0 #[.val (.ref o1), .val (.ref g1), .val (.ref g2), .val (.long rv), .second, .val (.ref op), .val (.int (1 : Int32)), .val (.long bg), .second] [] := by first | (simp [entryFrame, mkF, argsToLocals, Value.category]; done) | rfl
  refine own_entry ef ?_
  have N0 := Fr.nil n0
  have K0 := Keep.refl h0 [o1]
  have Fo1_history : Fld Z h0 o1 "com/example/lockstitch/lockstitch/engine/tree/SyncToken" "history" "Ljava/lang/String;" .null := D0 (Or.inr (hw _ (List.mem_of_getElem? (i := 318) rfl))) (ty := (.object "java/lang/String")) (by decide)
  have Fo1_collection : Fld Z h0 o1 "com/example/lockstitch/lockstitch/engine/tree/SyncToken" "collection" "Ljava/lang/String;" .null := D0 (Or.inr (hw _ (List.mem_of_getElem? (i := 320) rfl))) (ty := (.object "java/lang/String")) (by decide)
  have Fo1_revision : Fld Z h0 o1 "com/example/lockstitch/lockstitch/engine/tree/SyncToken" "revision" "J" (.long (0 : Int64)) := D0 (Or.inr (hw _ (List.mem_of_getElem? (i := 322) rfl))) (ty := .long) (by decide)
  have Fo1_inside : Fld Z h0 o1 "com/example/lockstitch/lockstitch/engine/tree/SyncToken" "inside" "Lcom/example/lockstitch/lockstitch/engine/tree/ResourcePath;" .null := D0 (Or.inr (hw _ (List.mem_of_getElem? (i := 331) rfl))) (ty := (.object "com/example/lockstitch/lockstitch/engine/tree/ResourcePath")) (by decide)
  have Fo1_asFile : Fld Z h0 o1 "com/example/lockstitch/lockstitch/engine/tree/SyncToken" "asFile" "Z" (.int (0 : Int32)) := D0 (Or.inr (hw _ (List.mem_of_getElem? (i := 338) rfl))) (ty := .boolean) (by decide)
  have Fo1_begun : Fld Z h0 o1 "com/example/lockstitch/lockstitch/engine/tree/SyncToken" "begun" "J" (.long (0 : Int64)) := D0 (Or.inr (hw _ (List.mem_of_getElem? (i := 348) rfl))) (ty := .long) (by decide)
  refine own_aloadN X0 hx (hb hby own_d_prog_27_method_2_code_0) rfl rfl rfl ?_
  refine own_initO X0 hx hZ hown (hw _ (List.mem_of_getElem? (i := 316) rfl)) (hw _ (List.mem_of_getElem? (i := 35) rfl)) (hw _ (List.mem_of_getElem? (i := 36) rfl)) e0 (by rw [hml]; rfl) (hb hby own_d_prog_27_method_2_code_1) 0 rfl (by decide) (by decide) rfl ?_
  intro T1 X1 e1
  refine own_aloadN X1 hx (hb hby own_d_prog_27_method_2_code_4) rfl rfl rfl ?_
  refine own_aloadN X1 hx (hb hby own_d_prog_27_method_2_code_5) rfl rfl rfl ?_
  refine own_putF X1 hx hZ hown (host := "") (Or.inl (hw _ (List.mem_of_getElem? (i := 317) rfl))) Via.refl e1 Fo1_history E0 (Or.inr ⟨(hw _ (List.mem_of_getElem? (i := 318) rfl)), rfl, hnm⟩) (hw _ (List.mem_of_getElem? (i := 1) rfl)) (ty := (.object "java/lang/String")) (by decide) rfl rfl N0 g_o1 (hb hby own_d_prog_27_method_2_code_6) rfl ?_
  intro T2 h2 X2 e2 W2 N2
  have K3 := K0.wr W2 (Or.inl (List.mem_of_getElem? (i := 0) rfl))
  have f4 := Fo1_history.same W2
  refine own_aloadN X2 hx (hb hby own_d_prog_27_method_2_code_9) rfl rfl rfl ?_
  refine own_aloadN X2 hx (hb hby own_d_prog_27_method_2_code_10) rfl rfl rfl ?_
  have f5 := (Fo1_collection.other W2 (Or.inr (slot_ne (Or.inr (hw _ (List.mem_of_getElem? (i := 320) rfl))) (Or.inr (hw _ (List.mem_of_getElem? (i := 318) rfl))) (by decide) (t := (.object "java/lang/String")) (t' := (.object "java/lang/String")) (by decide) (by decide))))
  have f6 := (E0.wr W2)
  refine own_putF X2 hx hZ hown (host := "") (Or.inl (hw _ (List.mem_of_getElem? (i := 319) rfl))) Via.refl e2 f5 f6 (Or.inr ⟨(hw _ (List.mem_of_getElem? (i := 320) rfl)), rfl, hnm⟩) (hw _ (List.mem_of_getElem? (i := 1) rfl)) (ty := (.object "java/lang/String")) (by decide) rfl rfl N2 g_o1 (hb hby own_d_prog_27_method_2_code_11) rfl ?_
  intro T7 h7 X7 e7 W7 N7
  have K8 := K3.wr W7 (Or.inl (List.mem_of_getElem? (i := 0) rfl))
  have f9 := f5.same W7
  refine own_aloadN X7 hx (hb hby own_d_prog_27_method_2_code_14) rfl rfl rfl ?_
  refine own_lloadN X7 hx (hb hby own_d_prog_27_method_2_code_15) rfl rfl ?_
  have f10 := ((Fo1_revision.other W2 (Or.inr (slot_ne (Or.inr (hw _ (List.mem_of_getElem? (i := 322) rfl))) (Or.inr (hw _ (List.mem_of_getElem? (i := 318) rfl))) (by decide) (t := .long) (t' := (.object "java/lang/String")) (by decide) (by decide)))).other W7 (Or.inr (slot_ne (Or.inr (hw _ (List.mem_of_getElem? (i := 322) rfl))) (Or.inr (hw _ (List.mem_of_getElem? (i := 320) rfl))) (by decide) (t := .long) (t' := (.object "java/lang/String")) (by decide) (by decide))))
  have f11 := (f6.wr W7)
  refine own_putF X7 hx hZ hown (host := "") (Or.inl (hw _ (List.mem_of_getElem? (i := 321) rfl))) Via.refl e7 f10 f11 (Or.inr ⟨(hw _ (List.mem_of_getElem? (i := 322) rfl)), rfl, hnm⟩) (hw _ (List.mem_of_getElem? (i := 1) rfl)) (ty := .long) (by decide) rfl rfl N7 g_o1 (hb hby own_d_prog_27_method_2_code_16) rfl ?_
  intro T12 h12 X12 e12 W12 N12
  have K13 := K8.wr W12 (Or.inl (List.mem_of_getElem? (i := 0) rfl))
  have f14 := f10.same W12
  refine own_aloadN X12 hx (hb hby own_d_prog_27_method_2_code_19) rfl rfl rfl ?_
  refine own_aload X12 hx (hb hby own_d_prog_27_method_2_code_20) rfl rfl rfl ?_
  refine own_aconst_null X12 hx (hb hby own_d_prog_27_method_2_code_22) rfl ?_
  have f15 := (((F1.other W2 (Or.inl (ne_exa E1 E0 (by decide)))).other W7 (Or.inl (ne_exa E1 E0 (by decide)))).other W12 (Or.inl (ne_exa E1 E0 (by decide))))
  have f17 := (((E1.wr W2).wr W7).wr W12)
  refine own_virtual X12 hx hZ (y := (⟨"java/util/Optional", "orElse", "(Ljava/lang/Object;)Ljava/lang/Object;"⟩ : MethodName)) (z := (⟨"java/util/Optional", "orElse", "(Ljava/lang/Object;)Ljava/lang/Object;"⟩ : MethodName)) hown (hw _ (List.mem_of_getElem? (i := 323) rfl)) (hw _ (List.mem_of_getElem? (i := 324) rfl)) (notFace_of_selects (args := #[]) (mvT hZ (hw _ (List.mem_of_getElem? (i := 326) rfl)))) (hw _ (List.mem_of_getElem? (i := 326) rfl)) (hw _ (List.mem_of_getElem? (i := 325) rfl)) (hw _ (List.mem_of_getElem? (i := 301) rfl)) (hw _ (List.mem_of_getElem? (i := 327) rfl)) (by decide) e12 (by decide) (W := 1) (by decide) (by decide) (by decide) [.null] [(.ref o1)] (by rw [hml]; rfl) f17 (own_orER l Z a0 hw op x1 h12 n0 f15) own_pd22 rfl rfl rfl (hb hby own_d_prog_27_method_2_code_23) rfl ?_
  intro v16 T16 L16 X16 hQ16
  obtain ⟨rfl, Nq16, hh16⟩ := hQ16
  have N16 := Fr.app N12 Nq16
  show own_Ends p e below _ (T16.setTop (mkF m 26 #[.val (.ref o1), .val (.ref g1), .val (.ref g2), .val (.long rv), .second, .val (.ref op), .val (.int (1 : Int32)), .val (.long bg), .second] [(.ref x1), (.ref o1)]))
  have f19 := (((E2.wr W2).wr W7).wr W12)
  refine own_castY X16 hx hZ hown (hw _ (List.mem_of_getElem? (i := 328) rfl)) hh16 (Ins.self f19) (hb hby own_d_prog_27_method_2_code_26) rfl ?_
  intro T18 X18 e18
  have f20 := (((Fo1_inside.other W2 (Or.inr (slot_ne (Or.inr (hw _ (List.mem_of_getElem? (i := 331) rfl))) (Or.inr (hw _ (List.mem_of_getElem? (i := 318) rfl))) (by decide) (t := (.object "com/example/lockstitch/lockstitch/engine/tree/ResourcePath")) (t' := (.object "java/lang/String")) (by decide) (by decide)))).other W7 (Or.inr (slot_ne (Or.inr (hw _ (List.mem_of_getElem? (i := 331) rfl))) (Or.inr (hw _ (List.mem_of_getElem? (i := 320) rfl))) (by decide) (t := (.object "com/example/lockstitch/lockstitch/engine/tree/ResourcePath")) (t' := (.object "java/lang/String")) (by decide) (by decide)))).other W12 (Or.inr (slot_ne (Or.inr (hw _ (List.mem_of_getElem? (i := 331) rfl))) (Or.inr (hw _ (List.mem_of_getElem? (i := 322) rfl))) (by decide) (t := (.object "com/example/lockstitch/lockstitch/engine/tree/ResourcePath")) (t' := .long) (by decide) (by decide))))
  have f21 := (f11.wr W12)
  refine own_putF X18 hx hZ hown (host := "") (Or.inl (hw _ (List.mem_of_getElem? (i := 330) rfl))) Via.refl e18 f20 f21 (Or.inr ⟨(hw _ (List.mem_of_getElem? (i := 331) rfl)), rfl, hnm⟩) (hw _ (List.mem_of_getElem? (i := 1) rfl)) (ty := (.object "com/example/lockstitch/lockstitch/engine/tree/ResourcePath")) (by decide) rfl rfl N16 g_o1 (hb hby own_d_prog_27_method_2_code_29) rfl ?_
  intro T22 h22 X22 e22 W22 N22
  have K23 := K13.wr W22 (Or.inl (List.mem_of_getElem? (i := 0) rfl))
  have f24 := f20.same W22
  refine own_aloadN X22 hx (hb hby own_d_prog_27_method_2_code_32) rfl rfl rfl ?_
  refine own_iload X22 hx (hb hby own_d_prog_27_method_2_code_33) rfl rfl ?_
  refine own_ifF X22 hx (hb hby own_d_prog_27_method_2_code_35) rfl (by decide) ?_
  refine own_aload X22 hx (hb hby own_d_prog_27_method_2_code_38) rfl rfl rfl ?_
  have f25 := (f15.other W22 (Or.inl (ne_exa E1 E0 (by decide))))
  have f27 := (f17.wr W22)
  refine own_virtual X22 hx hZ (y := (⟨"java/util/Optional", "isPresent", "()Z"⟩ : MethodName)) (z := (⟨"java/util/Optional", "isPresent", "()Z"⟩ : MethodName)) hown (hw _ (List.mem_of_getElem? (i := 332) rfl)) (hw _ (List.mem_of_getElem? (i := 333) rfl)) (notFace_of_selects (args := #[]) (mvT hZ (hw _ (List.mem_of_getElem? (i := 335) rfl)))) (hw _ (List.mem_of_getElem? (i := 335) rfl)) (hw _ (List.mem_of_getElem? (i := 334) rfl)) (hw _ (List.mem_of_getElem? (i := 301) rfl)) (hw _ (List.mem_of_getElem? (i := 336) rfl)) (by decide) e22 (by decide) (W := 1) (by decide) (by decide) (by decide) [] [(.ref o1)] (by rw [hml]; rfl) f27 (own_isPR l Z a0 hw op x1 h22 n0 f25) own_pd14 rfl rfl rfl (hb hby own_d_prog_27_method_2_code_40) rfl ?_
  intro v26 T26 L26 X26 hQ26
  obtain ⟨rfl, Nq26, hh26⟩ := hQ26
  have N26 := Fr.app N22 Nq26
  show own_Ends p e below _ (T26.setTop (mkF m 43 #[.val (.ref o1), .val (.ref g1), .val (.ref g2), .val (.long rv), .second, .val (.ref op), .val (.int (1 : Int32)), .val (.long bg), .second] [(.int (1 : Int32)), (.ref o1)]))
  refine own_ifF X26 hx (hb hby own_d_prog_27_method_2_code_43) rfl (by decide) ?_
  refine own_iconst X26 hx (1 : Int32) (hb hby own_d_prog_27_method_2_code_46) (by decide) rfl ?_
  refine own_goto X26 hx (hb hby own_d_prog_27_method_2_code_47) (by decide) rfl ?_
  have f28 := ((((Fo1_asFile.other W2 (Or.inr (slot_ne (Or.inr (hw _ (List.mem_of_getElem? (i := 338) rfl))) (Or.inr (hw _ (List.mem_of_getElem? (i := 318) rfl))) (by decide) (t := .boolean) (t' := (.object "java/lang/String")) (by decide) (by decide)))).other W7 (Or.inr (slot_ne (Or.inr (hw _ (List.mem_of_getElem? (i := 338) rfl))) (Or.inr (hw _ (List.mem_of_getElem? (i := 320) rfl))) (by decide) (t := .boolean) (t' := (.object "java/lang/String")) (by decide) (by decide)))).other W12 (Or.inr (slot_ne (Or.inr (hw _ (List.mem_of_getElem? (i := 338) rfl))) (Or.inr (hw _ (List.mem_of_getElem? (i := 322) rfl))) (by decide) (t := .boolean) (t' := .long) (by decide) (by decide)))).other W22 (Or.inr (slot_ne (Or.inr (hw _ (List.mem_of_getElem? (i := 338) rfl))) (Or.inr (hw _ (List.mem_of_getElem? (i := 331) rfl))) (by decide) (t := .boolean) (t' := (.object "com/example/lockstitch/lockstitch/engine/tree/ResourcePath")) (by decide) (by decide))))
  have f29 := (f21.wr W22)
  refine own_putFN X26 hx hZ hown (hw _ (List.mem_of_getElem? (i := 337) rfl)) Via.refl hh26 (.int (1 : Int32)) f28 f29 (Or.inr ⟨(hw _ (List.mem_of_getElem? (i := 338) rfl)), rfl, hnm⟩) (hw _ (List.mem_of_getElem? (i := 1) rfl)) (ty := .boolean) (by decide) rfl rfl N26 g_o1 (hb hby own_d_prog_27_method_2_code_51) rfl ?_
  intro T30 h30 X30 e30 W30 N30
  have K31 := K23.wr W30 (Or.inl (List.mem_of_getElem? (i := 0) rfl))
  have f32 := f28.same W30
  refine own_aloadN X30 hx (hb hby own_d_prog_27_method_2_code_54) rfl rfl rfl ?_
  refine own_lload X30 hx (hb hby own_d_prog_27_method_2_code_55) rfl rfl ?_
  refine own_aloadN X30 hx (hb hby own_d_prog_27_method_2_code_57) rfl rfl rfl ?_
  have f33 := (f24.other W30 (Or.inr (slot_ne (Or.inr (hw _ (List.mem_of_getElem? (i := 331) rfl))) (Or.inr (hw _ (List.mem_of_getElem? (i := 338) rfl))) (by decide) (t := (.object "com/example/lockstitch/lockstitch/engine/tree/ResourcePath")) (t' := .boolean) (by decide) (by decide))))
  have f34 := ((f14.other W22 (Or.inr (slot_ne (Or.inr (hw _ (List.mem_of_getElem? (i := 322) rfl))) (Or.inr (hw _ (List.mem_of_getElem? (i := 331) rfl))) (by decide) (t := .long) (t' := (.object "com/example/lockstitch/lockstitch/engine/tree/ResourcePath")) (by decide) (by decide)))).other W30 (Or.inr (slot_ne (Or.inr (hw _ (List.mem_of_getElem? (i := 322) rfl))) (Or.inr (hw _ (List.mem_of_getElem? (i := 338) rfl))) (by decide) (t := .long) (t' := .boolean) (by decide) (by decide))))
  have f36 := (f29.wr W30)
  refine own_virtual X30 hx hZ (y := (⟨"com/example/lockstitch/lockstitch/engine/tree/SyncToken", "wholeUpTo", "()J"⟩ : MethodName)) (z := (⟨"com/example/lockstitch/lockstitch/engine/tree/SyncToken", "wholeUpTo", "()J"⟩ : MethodName)) hown (hw _ (List.mem_of_getElem? (i := 339) rfl)) (hw _ (List.mem_of_getElem? (i := 340) rfl)) (notFace_of_selects (args := #[]) (mvT hZ (hw _ (List.mem_of_getElem? (i := 342) rfl)))) (hw _ (List.mem_of_getElem? (i := 342) rfl)) (hw _ (List.mem_of_getElem? (i := 341) rfl)) (hw _ (List.mem_of_getElem? (i := 2) rfl)) (hw _ (List.mem_of_getElem? (i := 343) rfl)) (by decide) e30 (by decide) (W := 3) (by decide) (by decide) (by decide) [] [(.long bg), (.ref o1)] (by rw [hml]; rfl) f36 (own_whoR l Z a0 hw o1 x1 rv h30 n0 f33 f34) own_pd26 rfl rfl rfl (hb hby own_d_prog_27_method_2_code_58) rfl ?_
  intro v35 T35 L35 X35 hQ35
  obtain ⟨rfl, Nq35, hh35⟩ := hQ35
  have N35 := Fr.app N30 Nq35
  show own_Ends p e below _ (T35.setTop (mkF m 61 #[.val (.ref o1), .val (.ref g1), .val (.ref g2), .val (.long rv), .second, .val (.ref op), .val (.int (1 : Int32)), .val (.long bg), .second] [(.long (rv - (1 : Int64))), (.long bg), (.ref o1)]))
  refine own_static X35 hx hZ (y := (⟨"java/lang/Math", "min", "(JJ)J"⟩ : MethodName)) hown (hw _ (List.mem_of_getElem? (i := 344) rfl)) (hw _ (List.mem_of_getElem? (i := 345) rfl)) (hw _ (List.mem_of_getElem? (i := 121) rfl)) (hw _ (List.mem_of_getElem? (i := 346) rfl)) (by decide) hh35 (by decide) (W := 1) (by decide) (by decide) (by decide) [(.long bg), (.long (rv - (1 : Int64)))] [(.ref o1)] (by rw [hml]; rfl) (own_mnL l Z a0 hw bg (rv - (1 : Int64)) h30 n0) own_pd27 rfl rfl rfl (hb hby own_d_prog_27_method_2_code_61) rfl ?_
  intro v37 T37 L37 X37 hQ37
  obtain ⟨rfl, Nq37, hh37⟩ := hQ37
  have N37 := Fr.app N35 Nq37
  show own_Ends p e below _ (T37.setTop (mkF m 64 #[.val (.ref o1), .val (.ref g1), .val (.ref g2), .val (.long rv), .second, .val (.ref op), .val (.int (1 : Int32)), .val (.long bg), .second] [(.long (own_minL bg (rv - (1 : Int64)))), (.ref o1)]))
  have f38 := (((((Fo1_begun.other W2 (Or.inr (slot_ne (Or.inr (hw _ (List.mem_of_getElem? (i := 348) rfl))) (Or.inr (hw _ (List.mem_of_getElem? (i := 318) rfl))) (by decide) (t := .long) (t' := (.object "java/lang/String")) (by decide) (by decide)))).other W7 (Or.inr (slot_ne (Or.inr (hw _ (List.mem_of_getElem? (i := 348) rfl))) (Or.inr (hw _ (List.mem_of_getElem? (i := 320) rfl))) (by decide) (t := .long) (t' := (.object "java/lang/String")) (by decide) (by decide)))).other W12 (Or.inr (slot_ne (Or.inr (hw _ (List.mem_of_getElem? (i := 348) rfl))) (Or.inr (hw _ (List.mem_of_getElem? (i := 322) rfl))) (by decide) (t := .long) (t' := .long) (by decide) (by decide)))).other W22 (Or.inr (slot_ne (Or.inr (hw _ (List.mem_of_getElem? (i := 348) rfl))) (Or.inr (hw _ (List.mem_of_getElem? (i := 331) rfl))) (by decide) (t := .long) (t' := (.object "com/example/lockstitch/lockstitch/engine/tree/ResourcePath")) (by decide) (by decide)))).other W30 (Or.inr (slot_ne (Or.inr (hw _ (List.mem_of_getElem? (i := 348) rfl))) (Or.inr (hw _ (List.mem_of_getElem? (i := 338) rfl))) (by decide) (t := .long) (t' := .boolean) (by decide) (by decide))))
  refine own_putF X37 hx hZ hown (host := "") (Or.inl (hw _ (List.mem_of_getElem? (i := 347) rfl))) Via.refl hh37 f38 f36 (Or.inr ⟨(hw _ (List.mem_of_getElem? (i := 348) rfl)), rfl, hnm⟩) (hw _ (List.mem_of_getElem? (i := 1) rfl)) (ty := .long) (by decide) rfl rfl N37 g_o1 (hb hby own_d_prog_27_method_2_code_64) rfl ?_
  intro T39 h39 X39 e39 W39 N39
  have K40 := K31.wr W39 (Or.inl (List.mem_of_getElem? (i := 0) rfl))
  have f41 := f38.same W39
  have f42 := (f36.wr W39)
  have f43 := (f34.other W39 (Or.inr (slot_ne (Or.inr (hw _ (List.mem_of_getElem? (i := 322) rfl))) (Or.inr (hw _ (List.mem_of_getElem? (i := 348) rfl))) (by decide) (t := .long) (t' := .long) (by decide) (by decide))))
  have f44 := (f33.other W39 (Or.inr (slot_ne (Or.inr (hw _ (List.mem_of_getElem? (i := 331) rfl))) (Or.inr (hw _ (List.mem_of_getElem? (i := 348) rfl))) (by decide) (t := (.object "com/example/lockstitch/lockstitch/engine/tree/ResourcePath")) (t' := .long) (by decide) (by decide))))
  exact own_ret X39 hx hlocks hret (hb hby own_d_prog_27_method_2_code_67) (by decide) (by decide) ⟨rfl, N39, by rw [e39]; exact ⟨K40, f42, f43, f44, f41⟩⟩
theorem own_okC {c : Int32} (h : ¬ c < 0 ∧ ¬ (255 : Int32) < c) (h1 : ¬ c = (47 : Int32)) (h2 : ¬ c = (0 : Int32)) (h3 : ¬ c = (46 : Int32)) : ¬ own_okN c.toInt8.toInt32 = (0 : Int32) := by
  obtain ⟨g1, g2⟩ := h
  rw [Int32.lt_iff_toInt_lt] at g1 g2
  have e0 : (0 : Int32).toInt = 0 := rfl
  have e1 : (255 : Int32).toInt = 255 := rfl
  have q : c.toInt8.toInt32.toInt = c.toInt.bmod 256 := by simp
  have k : ∀ n : Int32, 0 ≤ n.toInt → n.toInt < 128 → c.toInt8.toInt32 = n → c = n := fun n z1 z2 z3 => by
    rw [z3] at q
    refine Int32.toInt_inj.mp ?_
    simp only [Int.bmod] at q
    split at q <;> omega
  have n1 := fun z => h1 (k 47 (by decide) (by decide) z)
  have n2 := fun z => h2 (k 0 (by decide) (by decide) z)
  have n3 := fun z => h3 (k 46 (by decide) (by decide) z)
  simp only [own_okN, if_neg n1, if_neg n2, if_neg n3]
  decide
set_option maxRecDepth 65536 in
set_option maxHeartbeats 40000000 in
theorem own_oem (l : Launch) (Z : State) (a0 : Array Value) (hw : ∀ d ∈ tables_1, d.before a0 Z = true) (em : Addr) (h0 : Heap) (n0 : Nat) (O0 : Old Z n0 h0) (SE : Sta Z Z.heap "java/util/Optional" "EMPTY" "Ljava/util/Optional;" (.ref em)) :
    own_Met l (⟨"java/util/Optional", "empty", "()Ljava/util/Optional;"⟩ : MethodName) jdk_32_method_1_code 1 (some (.object "java/util/Optional")) ({ frames := 0, cells := 0, slots := 0, locals := 0 } : Room) Z #[] h0 (fun v h L => v = some (.ref em) ∧ Fr n0 L ∧ h = h0) := by
  refine own_met (plainFor_of_name own_pn_java_util_Optional) ?_
  intro p e s m below meth c T0 hx hby hml hZ hown hnm hret hlocks X0 e0 hh0
  have ef : entryFrame m #[] 1 = mkF m 0 #[.unset] [] := by first | (simp [entryFrame, mkF, argsToLocals, Value.category]; done) | rfl
  refine own_entry ef ?_
  have N0 := Fr.nil n0
  refine own_getS X0 hx hZ hown (host := "") (Or.inl (hw _ (List.mem_of_getElem? (i := 367) rfl))) Via.refl e0 (SE.ext O0.2) (hb hby own_d_jdk_32_method_1_code_0) rfl ?_
  intro T1 X1 e1
  refine own_astoreN X1 hx #[.val (.ref em)] (hb hby own_d_jdk_32_method_1_code_3) rfl rfl rfl ?_
  refine own_aloadN X1 hx (hb hby own_d_jdk_32_method_1_code_4) rfl rfl rfl ?_
  exact own_retA X1 hx hlocks hret rfl rfl (hb hby own_d_jdk_32_method_1_code_5) (by decide) (by decide) ⟨rfl, N0, e1⟩
set_option maxRecDepth 65536 in
set_option maxHeartbeats 40000000 in
theorem own_root (l : Launch) (Z : State) (a0 : Array Value) (hw : ∀ d ∈ tables_1, d.before a0 Z = true) (rt : Addr) (h0 : Heap) (n0 : Nat) (O0 : Old Z n0 h0) (SR : Sta Z Z.heap "com/example/lockstitch/lockstitch/engine/tree/ResourcePath" "ROOT" "Lcom/example/lockstitch/lockstitch/engine/tree/ResourcePath;" (.ref rt)) :
    own_Met l (⟨"com/example/lockstitch/lockstitch/engine/tree/ResourcePath", "root", "()Lcom/example/lockstitch/lockstitch/engine/tree/ResourcePath;"⟩ : MethodName) prog_24_method_4_code 0 (some (.object "com/example/lockstitch/lockstitch/engine/tree/ResourcePath")) ({ frames := 0, cells := 0, slots := 0, locals := 0 } : Room) Z #[] h0 (fun v h L => v = some (.ref rt) ∧ Fr n0 L ∧ h = h0) := by
  refine own_met (plainFor_of_name own_pn_com_example_lockstitch_lockstitch_engine_tree_ResourcePath) ?_
  intro p e s m below meth c T0 hx hby hml hZ hown hnm hret hlocks X0 e0 hh0
  have ef : entryFrame m #[] 0 = mkF m 0 #[] [] := by first | (simp [entryFrame, mkF, argsToLocals, Value.category]; done) | rfl
  refine own_entry ef ?_
  have N0 := Fr.nil n0
  refine own_getS X0 hx hZ hown (host := "") (Or.inl (hw _ (List.mem_of_getElem? (i := 16) rfl))) Via.refl e0 (SR.ext O0.2) (hb hby own_d_prog_24_method_4_code_0) rfl ?_
  intro T1 X1 e1
  exact own_retA X1 hx hlocks hret rfl rfl (hb hby own_d_prog_24_method_4_code_3) (by decide) (by decide) ⟨rfl, N0, e1⟩
set_option maxRecDepth 65536 in
set_option maxHeartbeats 40000000 in
theorem own_child (l : Launch) (Z : State) (a0 : Array Value) (hw : ∀ d ∈ tables_1, d.before a0 Z = true) (rt s1 u8 em eo mr nl c1 ky : Addr) (kc kk : ClassId) (b1 zc : Int32) (h0 : Heap) (n0 : Nat) (hEL : EW Z a0 consts_1) (O0 : Old Z n0 h0) (SC : Sta Z Z.heap "java/lang/String" "COMPACT_STRINGS" "Z" (.int zc)) (hzc : ¬ zc = 0) (SI : Sta Z Z.heap "sun/nio/cs/UTF_8" "INSTANCE" "Lsun/nio/cs/UTF_8;" (.ref u8)) (SU : Sta Z Z.heap "java/nio/charset/StandardCharsets" "UTF_8" "Ljava/nio/charset/Charset;" (.ref u8)) (SE : Sta Z Z.heap "java/util/Optional" "EMPTY" "Ljava/util/Optional;" (.ref em)) (XE : Exa Z Z.heap em "java/util/Optional") (FE : Fld Z Z.heap em "java/util/Optional" "value" "Ljava/lang/Object;" .null) (SX : Sta Z Z.heap "java/util/ImmutableCollections" "EMPTY" "Ljava/lang/Object;" (.ref eo)) (XX : Exa Z Z.heap eo "java/lang/Object") (M : own_Mir Z "[Ljava/lang/Object;" mr) (XR : Exa Z Z.heap rt "com/example/lockstitch/lockstitch/engine/tree/ResourcePath") (FNR : Fld Z Z.heap rt "com/example/lockstitch/lockstitch/engine/tree/ResourcePath" "names" "Ljava/util/List;" (.ref nl)) (XN : Exa Z Z.heap nl "java/util/ImmutableCollections$ListN") (FEN : Fld Z Z.heap nl "java/util/ImmutableCollections$ListN" "elements" "[Ljava/lang/Object;" (.ref c1)) (VE : Arv Z Z.heap c1 kc (.object "java/lang/Object") (0 : Int32) [] .null) (OA : Z.vm.findClass "[Ljava/lang/Object;" = some kc) (FKR : Fld Z Z.heap rt "com/example/lockstitch/lockstitch/engine/tree/ResourcePath" "key" "[B" (.ref ky)) (VK : Arv Z Z.heap ky kk .byte (0 : Int32) [] (.int (0 : Int32))) (S1 : own_S1 Z h0 s1 b1) :
    own_MetH l (⟨"com/example/lockstitch/lockstitch/engine/tree/ResourcePath", "child", "(Ljava/lang/String;)Ljava/util/Optional;"⟩ : MethodName) prog_24_method_6_code 5 (some (.object "java/util/Optional")) ({ frames := 8, cells := 13, slots := 35, locals := 102 } : Room) Z consts_1 #[(.ref rt), (.ref s1)] h0 (fun v h L => ∃ op : Addr, v = some (.ref op) ∧ Fr n0 L ∧ Keep h0 h [] ∧ Exa Z h op "java/util/Optional" ∧ ((own_okN b1 = (0 : Int32) ∧ Fld Z h op "java/util/Optional" "value" "Ljava/lang/Object;" .null) ∨ (¬ own_okN b1 = (0 : Int32) ∧ ∃ x : Addr, Exa Z h x "com/example/lockstitch/lockstitch/engine/tree/ResourcePath" ∧ Fld Z h op "java/util/Optional" "value" "Ljava/lang/Object;" (.ref x)))) := by
  refine own_metH (plainFor_of_name own_pn_com_example_lockstitch_lockstitch_engine_tree_ResourcePath) ?_
  intro p e s m below meth c T0 hx hby hml hZ hown hnm hret hlocks X0 e0 hh0 HH0
  have ef : entryFrame m #[(.ref rt), (.ref s1)] 5 = mkF m 0 #[.val (.ref rt), .val (.ref s1), .unset, .unset, .unset] [] := by first | (simp [entryFrame, mkF, argsToLocals, Value.category]; done) | rfl
  refine own_entry ef ?_
  have N0 := Fr.nil n0
  have hwS := own_hwS hw
  have K0 := Keep.refl h0 []
  obtain ⟨t1, kb1, Es1, Vs1, Cs1, Ks1, CB1⟩ := S1
  refine own_aloadN X0 hx (hb hby own_d_prog_24_method_6_code_0) rfl rfl rfl ?_
  refine own_getS X0 hx hZ hown (host := "") (Or.inl (hw _ (List.mem_of_getElem? (i := 44) rfl))) Via.refl e0 (SU.ext O0.2) (hb hby own_d_prog_24_method_6_code_1) rfl ?_
  intro T1 X1 e1
  refine own_virtual X1 hx hZ (y := (⟨"java/lang/String", "getBytes", "(Ljava/nio/charset/Charset;)[B"⟩ : MethodName)) (z := (⟨"java/lang/String", "getBytes", "(Ljava/nio/charset/Charset;)[B"⟩ : MethodName)) hown (hw _ (List.mem_of_getElem? (i := 46) rfl)) (hw _ (List.mem_of_getElem? (i := 47) rfl)) (notFace_of_selects (args := #[]) (mvT hZ (hw _ (List.mem_of_getElem? (i := 49) rfl)))) (hw _ (List.mem_of_getElem? (i := 49) rfl)) (hw _ (List.mem_of_getElem? (i := 48) rfl)) (hw _ (List.mem_of_getElem? (i := 4) rfl)) (hw _ (List.mem_of_getElem? (i := 50) rfl)) (by decide) e1 (by decide) (W := 0) (by decide) (by decide) (by decide) [(.ref u8)] [] (by rw [hml]; rfl) Es1 (own_getB l Z a0 hw u8 s1 b1 zc h0 n0 O0 SC hzc ⟨_, _, Es1, Vs1, Cs1, Ks1, CB1⟩ SI) own_pd28 rfl rfl rfl (hb hby own_d_prog_24_method_6_code_4) rfl ?_
  intro v2 T2 L2 X2 hQ2
  obtain ⟨r2, kr2, rfl, Nq2, Kq2, g_r2, sz_r2, D2⟩ := hQ2
  have sz_r2 := Nat.le_trans K0.1 sz_r2
  have N2 := Fr.app N0 Nq2
  have HH3 := HH0.keep Kq2 sf0
  have K4 := K0.trans Kq2 all0
  show own_Ends p e below _ (T2.setTop (mkF m 7 #[.val (.ref rt), .val (.ref s1), .unset, .unset, .unset] [(.ref r2)]))
  rcases D2 with V_r2 | ⟨y0_r2, y1_r2, V_r2⟩
  · refine own_astoreN X2 hx #[.val (.ref rt), .val (.ref s1), .val (.ref r2), .unset, .unset] (hb hby own_d_prog_24_method_6_code_7) rfl rfl rfl ?_
    refine own_aloadN X2 hx (hb hby own_d_prog_24_method_6_code_8) rfl rfl rfl ?_
    refine own_aloadN X2 hx (hb hby own_d_prog_24_method_6_code_9) rfl rfl rfl ?_
    refine own_arraylength X2 hx hZ rfl V_r2 (hb hby own_d_prog_24_method_6_code_10) rfl ?_
    have f5 := (O0.keep Kq2 all0)
    have f6 := (Es1.keep Kq2)
    have f7 := (Vs1.keep Kq2 nin0)
    have f8 := (Cs1.keep Kq2 nin0)
    have f9 := (Ks1.keep Kq2 nin0)
    refine own_staticH X2 hx hZ (y := (⟨"com/example/lockstitch/lockstitch/engine/tree/ResourcePath", "isResourceName", "(Ljava/lang/String;I)Z"⟩ : MethodName)) hown (hw _ (List.mem_of_getElem? (i := 80) rfl)) (hw _ (List.mem_of_getElem? (i := 81) rfl)) (hw _ (List.mem_of_getElem? (i := 14) rfl)) (hw _ (List.mem_of_getElem? (i := 82) rfl)) (by decide) HH3 hEL rfl (by decide) (W := 0) (by decide) (by decide) (by decide) [(.ref s1), (.int (1 : Int32))] [] (by rw [hml]; rfl) (own_isR1 l Z a0 hw s1 b1 zc T2.heap n0 hEL f5 SC hzc ⟨_, _, f6, f7, f8, f9, CB1⟩) own_pd29 rfl rfl rfl (hb hby own_d_prog_24_method_6_code_11) rfl ?_
    intro v10 T10 L10 X10 hQ10 hZ hown HH10 A10
    obtain ⟨rfl, Nq10, Kq10⟩ := hQ10
    have N10 := Fr.app N2 Nq10
    have K11 := K4.trans Kq10 all0
    show own_Ends p e below _ (T10.setTop (mkF m 14 #[.val (.ref rt), .val (.ref s1), .val (.ref r2), .unset, .unset] [(.int (own_okN b1))]))
    refine own_if_ne X10 hx (hb hby own_d_prog_24_method_6_code_14) (by decide) rfl rfl (fun hc14_12 => ?_) (fun hc14_12 => ?_)
    · refine own_new X10 hx hZ hown (hw _ (List.mem_of_getElem? (i := 129) rfl)) (hw _ (List.mem_of_getElem? (i := 130) rfl)) (hw _ (List.mem_of_getElem? (i := 131) rfl)) rfl (hb hby own_d_prog_24_method_6_code_21) (by decide) (by decide) rfl ?_
      intro T13 h13 b13 X13 e13 g13 E13 A13 D13
      have f14 := (f5.keep Kq10 all0)
      have g_b13 : n0 ≤ b13 := Nat.le_trans (own_oz f14) (Nat.le_of_eq g13.symm)
      have sz_b13 : h0.size ≤ b13 := Nat.le_trans K11.1 (Nat.le_of_eq g13.symm)
      have HH15 := HH10.ext E13
      have K16 := K11.ext E13
      have Fb13_modCount : Fld Z h13 b13 "java/util/AbstractList" "modCount" "I" (.int (0 : Int32)) := D13 (Or.inl (hw _ (List.mem_of_getElem? (i := 163) rfl))) (ty := .int) (by decide)
      have Fb13_elementData : Fld Z h13 b13 "java/util/ArrayList" "elementData" "[Ljava/lang/Object;" .null := D13 (Or.inl (hw _ (List.mem_of_getElem? (i := 167) rfl))) (ty := (.array (.object "java/lang/Object"))) (by decide)
      have Fb13_size : Fld Z h13 b13 "java/util/ArrayList" "size" "I" (.int (0 : Int32)) := D13 (Or.inl (hw _ (List.mem_of_getElem? (i := 217) rfl))) (ty := .int) (by decide)
      refine own_dup X13 hx (hb hby own_d_prog_24_method_6_code_24) rfl rfl ?_
      refine own_aloadN X13 hx (hb hby own_d_prog_24_method_6_code_25) rfl rfl rfl ?_
      have f17 := (f14.ext E13)
      refine own_getF X13 hx hZ hown (host := "") (Or.inl (hw _ (List.mem_of_getElem? (i := 132) rfl))) Via.refl e13 (FNR.ext f17.2) (hb hby own_d_prog_24_method_6_code_26) rfl ?_
      intro T18 X18 e18
      refine own_iface X18 hx hZ (xi := (⟨"java/util/List", "size", "()I"⟩ : MethodName)) (y := (⟨"java/util/ImmutableCollections$ListN", "size", "()I"⟩ : MethodName)) hown (hw _ (List.mem_of_getElem? (i := 134) rfl)) (hw _ (List.mem_of_getElem? (i := 135) rfl)) (mvT hZ (hw _ (List.mem_of_getElem? (i := 136) rfl))) (hw _ (List.mem_of_getElem? (i := 137) rfl)) (hw _ (List.mem_of_getElem? (i := 138) rfl)) (hw _ (List.mem_of_getElem? (i := 139) rfl)) (hw _ (List.mem_of_getElem? (i := 140) rfl)) (hw _ (List.mem_of_getElem? (i := 141) rfl)) (hw _ (List.mem_of_getElem? (i := 142) rfl)) (hw _ (List.mem_of_getElem? (i := 143) rfl)) (by decide) e18 (by decide) (W := 2) (by decide) (by decide) (by decide) [] [(.ref b13), (.ref b13)] (by rw [hml]; rfl) (XN.ext f17.2) (own_lnS l Z a0 hw nl c1 _ h13 n0 (VE.ext f17.2) OA (FEN.ext f17.2)) own_pd15 rfl rfl rfl (hb hby own_d_prog_24_method_6_code_29) rfl ?_
      intro v19 T19 L19 X19 hQ19
      obtain ⟨rfl, Nq19, hh19⟩ := hQ19
      have N19 := Fr.app N10 Nq19
      show own_Ends p e below _ (T19.setTop (mkF m 34 #[.val (.ref rt), .val (.ref s1), .val (.ref r2), .unset, .unset] [(.int (0 : Int32)), (.ref b13), (.ref b13)]))
      refine own_iconst X19 hx (1 : Int32) (hb hby own_d_prog_24_method_6_code_34) (by decide) rfl ?_
      refine own_iadd X19 hx (hb hby own_d_prog_24_method_6_code_35) rfl ?_
      rw [show ((0 : Int32) + (1 : Int32)) = (1 : Int32) from by decide]
      refine own_special X19 hx hZ (y := (⟨"java/util/ArrayList", "<init>", "(I)V"⟩ : MethodName)) rfl hown (hw _ (List.mem_of_getElem? (i := 146) rfl)) (hw _ (List.mem_of_getElem? (i := 147) rfl)) (hw _ (List.mem_of_getElem? (i := 131) rfl)) (hw _ (List.mem_of_getElem? (i := 148) rfl)) (by decide) hh19 (by decide) (W := 1) (by decide) (by decide) (by decide) [(.int (1 : Int32))] [(.ref b13)] (by rw [hml]; rfl) (a := b13) (own_aliI l Z a0 hw b13 h13 n0 f17 g_b13 A13 D13) own_pd30 rfl rfl rfl (hb hby own_d_prog_24_method_6_code_36) rfl ?_
      intro v20 T20 L20 X20 hQ20
      obtain ⟨rfl, Nq20, Kq20, ed20, ke20, g_ed20, sz_ed20, Al20, Ve20, Oe20⟩ := hQ20
      have sz_ed20 := Nat.le_trans K16.1 sz_ed20
      have N20 := Fr.app N19 Nq20
      have HH21 := HH15.keep Kq20 (sfS (Safe.exa hZ.alike A13 (by decide) (by decide)) sf0)
      have K22 := K16.trans Kq20 (allS (Or.inr sz_b13) all0)
      obtain ⟨El20, Ml20, Dl20, Sl20⟩ := Al20
      show own_Ends p e below _ (T20.setTop (mkF m 39 #[.val (.ref rt), .val (.ref s1), .val (.ref r2), .unset, .unset] [(.ref b13)]))
      refine own_astoreN X20 hx #[.val (.ref rt), .val (.ref s1), .val (.ref r2), .val (.ref b13), .unset] (hb hby own_d_prog_24_method_6_code_39) rfl rfl rfl ?_
      refine own_aloadN X20 hx (hb hby own_d_prog_24_method_6_code_40) rfl rfl rfl ?_
      refine own_aloadN X20 hx (hb hby own_d_prog_24_method_6_code_41) rfl rfl rfl ?_
      have f23 := (f17.keep Kq20 (allS g_b13 all0))
      refine own_getF X20 hx hZ hown (host := "") (Or.inl (hw _ (List.mem_of_getElem? (i := 132) rfl))) Via.refl rfl (FNR.ext f23.2) (hb hby own_d_prog_24_method_6_code_42) rfl ?_
      intro T24 X24 e24
      refine own_iface X24 hx hZ (xi := (⟨"java/util/List", "addAll", "(Ljava/util/Collection;)Z"⟩ : MethodName)) (y := (⟨"java/util/ArrayList", "addAll", "(Ljava/util/Collection;)Z"⟩ : MethodName)) hown (hw _ (List.mem_of_getElem? (i := 168) rfl)) (hw _ (List.mem_of_getElem? (i := 169) rfl)) (mvT hZ (hw _ (List.mem_of_getElem? (i := 170) rfl))) (hw _ (List.mem_of_getElem? (i := 171) rfl)) (hw _ (List.mem_of_getElem? (i := 172) rfl)) (hw _ (List.mem_of_getElem? (i := 173) rfl)) (hw _ (List.mem_of_getElem? (i := 174) rfl)) (hw _ (List.mem_of_getElem? (i := 175) rfl)) (hw _ (List.mem_of_getElem? (i := 131) rfl)) (hw _ (List.mem_of_getElem? (i := 176) rfl)) (by decide) e24 (by decide) (W := 0) (by decide) (by decide) (by decide) [(.ref nl)] [] (by rw [hml]; rfl) El20 (own_addA l Z a0 hw b13 ed20 nl (0 : Int32) c1 mr _ T20.heap n0 f23 M (VE.ext f23.2) OA (FEN.ext f23.2) (XN.ext f23.2) g_b13 ⟨El20, Ml20, Dl20, Sl20⟩) own_pd31 rfl rfl rfl (hb hby own_d_prog_24_method_6_code_45) rfl ?_
      intro v25 T25 L25 X25 hQ25
      obtain ⟨rfl, Nq25, Kq25, Al25⟩ := hQ25
      have N25 := Fr.app N20 Nq25
      have HH26 := HH21.keep Kq25 (sfS (Safe.exa hZ.alike El20 (by decide) (by decide)) sf0)
      have K27 := K22.trans Kq25 (allS (Or.inr sz_b13) all0)
      obtain ⟨El25, Ml25, Dl25, Sl25⟩ := Al25
      show own_Ends p e below _ (T25.setTop (mkF m 50 #[.val (.ref rt), .val (.ref s1), .val (.ref r2), .val (.ref b13), .unset] [(.int (0 : Int32))]))
      refine own_pop X25 hx (hb hby own_d_prog_24_method_6_code_50) rfl rfl ?_
      refine own_aloadN X25 hx (hb hby own_d_prog_24_method_6_code_51) rfl rfl rfl ?_
      refine own_aloadN X25 hx (hb hby own_d_prog_24_method_6_code_52) rfl rfl rfl ?_
      have f28 := (Ve20.keep Kq25 (ninS (Ne.symm (Exa.neArv El20 Ve20 (hw _ (List.mem_of_getElem? (i := 130) rfl)))) nin0))
      have f29 := ((((f6.keep Kq10).ext E13).keep Kq20).keep Kq25)
      refine own_iface X25 hx hZ (xi := (⟨"java/util/List", "add", "(Ljava/lang/Object;)Z"⟩ : MethodName)) (y := (⟨"java/util/ArrayList", "add", "(Ljava/lang/Object;)Z"⟩ : MethodName)) hown (hw _ (List.mem_of_getElem? (i := 208) rfl)) (hw _ (List.mem_of_getElem? (i := 209) rfl)) (mvT hZ (hw _ (List.mem_of_getElem? (i := 210) rfl))) (hw _ (List.mem_of_getElem? (i := 211) rfl)) (hw _ (List.mem_of_getElem? (i := 212) rfl)) (hw _ (List.mem_of_getElem? (i := 213) rfl)) (hw _ (List.mem_of_getElem? (i := 214) rfl)) (hw _ (List.mem_of_getElem? (i := 175) rfl)) (hw _ (List.mem_of_getElem? (i := 131) rfl)) (hw _ (List.mem_of_getElem? (i := 215) rfl)) (by decide) rfl (by decide) (W := 0) (by decide) (by decide) (by decide) [(.ref s1)] [] (by rw [hml]; rfl) El25 (own_add1 l Z a0 hw b13 s1 ed20 _ ((0 : Int32) + (1 : Int32)) T25.heap n0 g_b13 g_ed20 ⟨El25, Ml25, Dl25, Sl25⟩ f28 Oe20 (Ins.of_exa f29 (hw _ (List.mem_of_getElem? (i := 223) rfl)))) own_pd16 rfl rfl rfl (hb hby own_d_prog_24_method_6_code_53) rfl ?_
      intro v30 T30 L30 X30 hQ30
      obtain ⟨rfl, Nq30, Kq30, Al30, Ve30⟩ := hQ30
      have N30 := Fr.app N25 Nq30
      have HH31 := HH26.keep Kq30 (sfS (Safe.exa hZ.alike El25 (by decide) (by decide)) (sfS (Safe.arv hZ.alike f28 (by decide)) sf0))
      have K32 := K27.trans Kq30 (allS (Or.inr sz_b13) (allS (Or.inr sz_ed20) all0))
      obtain ⟨El30, Ml30, Dl30, Sl30⟩ := Al30
      show own_Ends p e below _ (T30.setTop (mkF m 58 #[.val (.ref rt), .val (.ref s1), .val (.ref r2), .val (.ref b13), .unset] [(.int (1 : Int32))]))
      refine own_pop X30 hx (hb hby own_d_prog_24_method_6_code_58) rfl rfl ?_
      refine own_aloadN X30 hx (hb hby own_d_prog_24_method_6_code_59) rfl rfl rfl ?_
      have f33 := ((f23.keep Kq25 (allS g_b13 all0)).keep Kq30 (allS g_b13 (allS g_ed20 all0)))
      refine own_getF X30 hx hZ hown (host := "") (Or.inl (hw _ (List.mem_of_getElem? (i := 224) rfl))) Via.refl rfl (FKR.ext f33.2) (hb hby own_d_prog_24_method_6_code_60) rfl ?_
      intro T34 X34 e34
      refine own_aloadN X34 hx (hb hby own_d_prog_24_method_6_code_63) rfl rfl rfl ?_
      refine own_getF X34 hx hZ hown (host := "") (Or.inl (hw _ (List.mem_of_getElem? (i := 224) rfl))) Via.refl e34 (FKR.ext f33.2) (hb hby own_d_prog_24_method_6_code_64) rfl ?_
      intro T35 X35 e35
      refine own_arraylength X35 hx hZ e35 (VK.ext f33.2) (hb hby own_d_prog_24_method_6_code_67) rfl ?_
      refine own_aloadN X35 hx (hb hby own_d_prog_24_method_6_code_68) rfl rfl rfl ?_
      have f36 := (((((V_r2.keep Kq10 nin0).ext E13).keep Kq20 (ninS (Nat.ne_of_lt (Nat.lt_of_lt_of_le (V_r2.keep Kq10 nin0).lt (Nat.le_of_eq g13.symm))) nin0)).keep Kq25 (ninS (Nat.ne_of_lt (Nat.lt_of_lt_of_le (V_r2.keep Kq10 nin0).lt (Nat.le_of_eq g13.symm))) nin0)).keep Kq30 (ninS (Nat.ne_of_lt (Nat.lt_of_lt_of_le (V_r2.keep Kq10 nin0).lt (Nat.le_of_eq g13.symm))) (ninS (own_neV (((V_r2.keep Kq10 nin0).ext E13).keep Kq20 (ninS (Nat.ne_of_lt (Nat.lt_of_lt_of_le (V_r2.keep Kq10 nin0).lt (Nat.le_of_eq g13.symm))) nin0)) Ve20 (by decide)) nin0)))
      refine own_arraylength X35 hx hZ e35 f36 (hb hby own_d_prog_24_method_6_code_69) rfl ?_
      refine own_iadd X35 hx (hb hby own_d_prog_24_method_6_code_70) rfl ?_
      rw [show ((0 : Int32) + (1 : Int32)) = (1 : Int32) from by decide]
      refine own_iconst X35 hx (1 : Int32) (hb hby own_d_prog_24_method_6_code_71) (by decide) rfl ?_
      refine own_iadd X35 hx (hb hby own_d_prog_24_method_6_code_72) rfl ?_
      rw [show ((1 : Int32) + (1 : Int32)) = (2 : Int32) from by decide]
      have f37 := (f29.keep Kq30)
      have f38 := (((((f9.keep Kq10 nin0).ext E13).keep Kq20 (ninS (Nat.ne_of_lt (Nat.lt_of_lt_of_le (f9.keep Kq10 nin0).lt (Nat.le_of_eq g13.symm))) nin0)).keep Kq25 (ninS (Nat.ne_of_lt (Nat.lt_of_lt_of_le (f9.keep Kq10 nin0).lt (Nat.le_of_eq g13.symm))) nin0)).keep Kq30 (ninS (Nat.ne_of_lt (Nat.lt_of_lt_of_le (f9.keep Kq10 nin0).lt (Nat.le_of_eq g13.symm))) (ninS (own_neV (((f9.keep Kq10 nin0).ext E13).keep Kq20 (ninS (Nat.ne_of_lt (Nat.lt_of_lt_of_le (f9.keep Kq10 nin0).lt (Nat.le_of_eq g13.symm))) nin0)) Ve20 (by decide)) nin0)))
      refine own_static X35 hx hZ (y := (⟨"java/util/Arrays", "copyOf", "([BI)[B"⟩ : MethodName)) hown (hw _ (List.mem_of_getElem? (i := 226) rfl)) (hw _ (List.mem_of_getElem? (i := 227) rfl)) (hw _ (List.mem_of_getElem? (i := 188) rfl)) (hw _ (List.mem_of_getElem? (i := 228) rfl)) (by decide) e35 (by decide) (W := 0) (by decide) (by decide) (by decide) [(.ref ky), (.int (2 : Int32))] [] (by rw [hml]; rfl) (own_cpB2 l Z a0 hw ky _ T30.heap n0 f33 (VK.ext f33.2)) own_pd32 rfl rfl rfl (hb hby own_d_prog_24_method_6_code_73) rfl ?_
      intro v39 T39 L39 X39 hQ39
      obtain ⟨b39, k39, rfl, Nq39, Kq39, g_b39, sr_b39, V39⟩ := hQ39
      have sz_b39 := Nat.le_trans K32.1 sr_b39
      have Y_b39 := own_sfK (Safe.new sr_b39) Kq39 sf0 HH31
      have N39 := Fr.app N30 Nq39
      have HH40 := HH31.keep Kq39 sf0
      have K41 := K32.trans Kq39 all0
      show own_Ends p e below _ (T39.setTop (mkF m 76 #[.val (.ref rt), .val (.ref s1), .val (.ref r2), .val (.ref b13), .unset] [(.ref b39)]))
      refine own_astore X39 hx #[.val (.ref rt), .val (.ref s1), .val (.ref r2), .val (.ref b13), .val (.ref b39)] (hb hby own_d_prog_24_method_6_code_76) rfl rfl rfl ?_
      refine own_aloadN X39 hx (hb hby own_d_prog_24_method_6_code_78) rfl rfl rfl ?_
      refine own_iconst X39 hx (0 : Int32) (hb hby own_d_prog_24_method_6_code_79) (by decide) rfl ?_
      refine own_aload X39 hx (hb hby own_d_prog_24_method_6_code_80) rfl rfl rfl ?_
      refine own_aloadN X39 hx (hb hby own_d_prog_24_method_6_code_82) rfl rfl rfl ?_
      have f42 := (f33.keep Kq39 all0)
      refine own_getF X39 hx hZ hown (host := "") (Or.inl (hw _ (List.mem_of_getElem? (i := 224) rfl))) Via.refl rfl (FKR.ext f42.2) (hb hby own_d_prog_24_method_6_code_83) rfl ?_
      intro T43 X43 e43
      refine own_arraylength X43 hx hZ e43 (VK.ext f42.2) (hb hby own_d_prog_24_method_6_code_86) rfl ?_
      refine own_aloadN X43 hx (hb hby own_d_prog_24_method_6_code_87) rfl rfl rfl ?_
      have f44 := (f36.keep Kq39 nin0)
      refine own_arraylength X43 hx hZ e43 f44 (hb hby own_d_prog_24_method_6_code_88) rfl ?_
      refine own_cpA X43 hx hZ hown (hw _ (List.mem_of_getElem? (i := 229) rfl)) (hw _ (List.mem_of_getElem? (i := 205) rfl)) (hw _ (List.mem_of_getElem? (i := 203) rfl)) (hw _ (List.mem_of_getElem? (i := 204) rfl)) e43 f44 V39 [(.int b1)] (Or.inl ⟨rfl, rfl⟩) (by decide) (by decide) (by decide) (by decide) (by decide) rfl (Nat.le_of_ble_eq_true rfl) N39 g_b39 (by rw [hml]; rfl) (hb hby own_d_prog_24_method_6_code_89) (by decide) 0 rfl (by decide) rfl ?_
      intro T45 h45 L45 X45 e45 N45 Kq45 V45q
      have HH46 := HH40.keep Kq45 (sfS Y_b39 sf0)
      have K47 := K41.trans Kq45 (allS (Or.inr sz_b39) all0)
      have V45 : Arv Z h45 b39 _ .byte (2 : Int32) [(.int b1), (.int (0 : Int32))] (.int (0 : Int32)) := V45q
      refine own_aload X45 hx (hb hby own_d_prog_24_method_6_code_92) rfl rfl rfl ?_
      refine own_aload X45 hx (hb hby own_d_prog_24_method_6_code_94) rfl rfl rfl ?_
      refine own_arraylength X45 hx hZ e45 V45 (hb hby own_d_prog_24_method_6_code_96) rfl ?_
      refine own_iconst X45 hx (1 : Int32) (hb hby own_d_prog_24_method_6_code_97) (by decide) rfl ?_
      refine own_isub X45 hx (hb hby own_d_prog_24_method_6_code_98) rfl ?_
      rw [show ((2 : Int32) - (1 : Int32)) = (1 : Int32) from by decide]
      refine own_iconst X45 hx (0 : Int32) (hb hby own_d_prog_24_method_6_code_99) (by decide) rfl ?_
      have f49 := (own_sfK Y_b39 Kq45 (sfS Y_b39 sf0) HH40)
      refine own_stB X45 hx hZ e45 V45 ⟨by decide, by decide⟩ 1 rfl (Nat.le_of_ble_eq_true rfl) (by decide) N45 g_b39 (hb hby own_d_prog_24_method_6_code_100) rfl ?_
      intro T48 h48 X48 e48 W48 N48 V48
      have HH50 := HH46.wr W48 f49
      have K51 := K47.wr W48 (Or.inr sz_b39)
      refine own_new X48 hx hZ hown (hw _ (List.mem_of_getElem? (i := 230) rfl)) (hw _ (List.mem_of_getElem? (i := 231) rfl)) (hw _ (List.mem_of_getElem? (i := 14) rfl)) e48 (hb hby own_d_prog_24_method_6_code_101) (by decide) (by decide) rfl ?_
      intro T52 h52 b52 X52 e52 g52 E52 A52 D52
      have f53 := ((f42.keep Kq45 (allS g_b39 all0)).wr W48 g_b39)
      have g_b52 : n0 ≤ b52 := Nat.le_trans (own_oz f53) (Nat.le_of_eq g52.symm)
      have sz_b52 : h0.size ≤ b52 := Nat.le_trans K51.1 (Nat.le_of_eq g52.symm)
      have HH54 := HH50.ext E52
      have K55 := K51.ext E52
      have Fb52_names : Fld Z h52 b52 "com/example/lockstitch/lockstitch/engine/tree/ResourcePath" "names" "Ljava/util/List;" .null := D52 (Or.inr (hw _ (List.mem_of_getElem? (i := 133) rfl))) (ty := (.object "java/util/List")) (by decide)
      have Fb52_key : Fld Z h52 b52 "com/example/lockstitch/lockstitch/engine/tree/ResourcePath" "key" "[B" .null := D52 (Or.inr (hw _ (List.mem_of_getElem? (i := 225) rfl))) (ty := (.array .byte)) (by decide)
      refine own_dup X52 hx (hb hby own_d_prog_24_method_6_code_104) rfl rfl ?_
      refine own_aloadN X52 hx (hb hby own_d_prog_24_method_6_code_105) rfl rfl rfl ?_
      have f56 := (f53.ext E52)
      have f57 := ((((El30.keep Kq39).keep Kq45).wr W48).ext E52)
      have f58 := ((((Ml30.keep Kq39 nin0).keep Kq45 (ninS (Ne.symm (Ne.symm (Exa.neArv (El30.keep Kq39) V39 (hw _ (List.mem_of_getElem? (i := 130) rfl))))) nin0)).other W48 (Or.inl (Ne.symm (Ne.symm (Exa.neArv (El30.keep Kq39) V39 (hw _ (List.mem_of_getElem? (i := 130) rfl))))))).ext E52)
      have f59 := ((((Dl30.keep Kq39 nin0).keep Kq45 (ninS (Ne.symm (Ne.symm (Exa.neArv (El30.keep Kq39) V39 (hw _ (List.mem_of_getElem? (i := 130) rfl))))) nin0)).other W48 (Or.inl (Ne.symm (Ne.symm (Exa.neArv (El30.keep Kq39) V39 (hw _ (List.mem_of_getElem? (i := 130) rfl))))))).ext E52)
      have f60 := ((((Sl30.keep Kq39 nin0).keep Kq45 (ninS (Ne.symm (Ne.symm (Exa.neArv (El30.keep Kq39) V39 (hw _ (List.mem_of_getElem? (i := 130) rfl))))) nin0)).other W48 (Or.inl (Ne.symm (Ne.symm (Exa.neArv (El30.keep Kq39) V39 (hw _ (List.mem_of_getElem? (i := 130) rfl))))))).ext E52)
      have f61 := ((((f37.keep Kq39).keep Kq45).wr W48).ext E52)
      have f62 := ((((Ve30.keep Kq39 nin0).keep Kq45 (ninS (own_neV (Ve30.keep Kq39 nin0) V39 (by decide)) nin0)).other W48 (own_neV (Ve30.keep Kq39 nin0) V39 (by decide))).ext E52)
      refine own_static X52 hx hZ (y := (⟨"java/util/List", "copyOf", "(Ljava/util/Collection;)Ljava/util/List;"⟩ : MethodName)) hown (hw _ (List.mem_of_getElem? (i := 232) rfl)) (hw _ (List.mem_of_getElem? (i := 233) rfl)) (hw _ (List.mem_of_getElem? (i := 234) rfl)) (hw _ (List.mem_of_getElem? (i := 235) rfl)) (by decide) e52 (by decide) (W := 2) (by decide) (by decide) (by decide) [(.ref b13)] [(.ref b52), (.ref b52)] (by rw [hml]; rfl) (own_cpy1 l Z a0 hw b13 ed20 s1 _ (((0 : Int32) + (1 : Int32)) + (1 : Int32)) eo mr h52 n0 f56 SX XX M ⟨f57, f58, f59, f60⟩ f61 f62 Oe20) own_pd25 rfl rfl rfl (hb hby own_d_prog_24_method_6_code_106) rfl ?_
      intro v63 T63 L63 X63 hQ63
      obtain ⟨b63, rfl, Nq63, Kq63, g_b63, sz_b63, Il63⟩ := hQ63
      have sz_b63 := Nat.le_trans K55.1 sz_b63
      have N63 := Fr.app N48 Nq63
      have HH64 := HH54.keep Kq63 sf0
      have K65 := K55.trans Kq63 all0
      obtain ⟨Ei63, Fi63, Gi63⟩ := Il63
      show own_Ends p e below _ (T63.setTop (mkF m 109 #[.val (.ref rt), .val (.ref s1), .val (.ref r2), .val (.ref b13), .val (.ref b39)] [(.ref b63), (.ref b52), (.ref b52)]))
      refine own_aload X63 hx (hb hby own_d_prog_24_method_6_code_109) rfl rfl rfl ?_
      have f66 := (A52.keep Kq63)
      have f67 := (Fb52_names.keep Kq63 nin0)
      have f68 := (Fb52_key.keep Kq63 nin0)
      refine own_special X63 hx hZ (y := (⟨"com/example/lockstitch/lockstitch/engine/tree/ResourcePath", "<init>", "(Ljava/util/List;[B)V"⟩ : MethodName)) rfl hown (hw _ (List.mem_of_getElem? (i := 295) rfl)) (hw _ (List.mem_of_getElem? (i := 296) rfl)) (hw _ (List.mem_of_getElem? (i := 14) rfl)) (hw _ (List.mem_of_getElem? (i := 297) rfl)) (by decide) rfl (by decide) (W := 1) (by decide) (by decide) (by decide) [(.ref b63), (.ref b39)] [(.ref b52)] (by rw [hml]; rfl) (a := b52) (own_rpI l Z a0 hw b52 b63 b39 T63.heap n0 g_b52 f66 f67 f68) own_pd33 rfl rfl rfl (hb hby own_d_prog_24_method_6_code_111) rfl ?_
      intro v69 T69 L69 X69 hQ69
      obtain ⟨rfl, Nq69, Kq69, Er69⟩ := hQ69
      have N69 := Fr.app N63 Nq69
      have HH70 := HH64.keep Kq69 (sfS (Safe.exa hZ.alike f66 (by decide) (by decide)) sf0)
      have K71 := K65.trans Kq69 (allS (Or.inr sz_b52) all0)
      show own_Ends p e below _ (T69.setTop (mkF m 114 #[.val (.ref rt), .val (.ref s1), .val (.ref r2), .val (.ref b13), .val (.ref b39)] [(.ref b52)]))
      have f72 := ((f56.keep Kq63 all0).keep Kq69 (allS g_b52 all0))
      refine own_static X69 hx hZ (y := (⟨"java/util/Optional", "of", "(Ljava/lang/Object;)Ljava/util/Optional;"⟩ : MethodName)) hown (hw _ (List.mem_of_getElem? (i := 299) rfl)) (hw _ (List.mem_of_getElem? (i := 300) rfl)) (hw _ (List.mem_of_getElem? (i := 301) rfl)) (hw _ (List.mem_of_getElem? (i := 302) rfl)) (by decide) rfl (by decide) (W := 0) (by decide) (by decide) (by decide) [(.ref b52)] [] (by rw [hml]; rfl) (own_optOf l Z a0 hw b52 T69.heap n0 f72) own_pd34 rfl rfl rfl (hb hby own_d_prog_24_method_6_code_114) rfl ?_
      intro v73 T73 L73 X73 hQ73
      obtain ⟨op73, rfl, Nq73, Kq73, Eo73, Fo73⟩ := hQ73
      have N73 := Fr.app N69 Nq73
      have HH74 := HH70.keep Kq73 sf0
      have K75 := K71.trans Kq73 all0
      show own_Ends p e below _ (T73.setTop (mkF m 117 #[.val (.ref rt), .val (.ref s1), .val (.ref r2), .val (.ref b13), .val (.ref b39)] [(.ref op73)]))
      have f76 := (Er69.keep Kq73)
      exact own_retAH X73 hx hZ rfl HH74 hEL hlocks hret rfl rfl (hb hby own_d_prog_24_method_6_code_117) (by decide) (by decide) ⟨op73, rfl, N73, by exact ⟨K75, Eo73, Or.inr ⟨hc14_12, b52, f76, Fo73⟩⟩⟩
    · have f77 := (f5.keep Kq10 all0)
      refine own_static X10 hx hZ (y := (⟨"java/util/Optional", "empty", "()Ljava/util/Optional;"⟩ : MethodName)) hown (hw _ (List.mem_of_getElem? (i := 364) rfl)) (hw _ (List.mem_of_getElem? (i := 365) rfl)) (hw _ (List.mem_of_getElem? (i := 301) rfl)) (hw _ (List.mem_of_getElem? (i := 366) rfl)) (by decide) rfl (by decide) (W := 0) (by decide) (by decide) (by decide) [] [] (by rw [hml]; rfl) (own_oem l Z a0 hw em T10.heap n0 f77 SE) own_pd35 rfl rfl rfl (hb hby own_d_prog_24_method_6_code_17) rfl ?_
      intro v78 T78 L78 X78 hQ78
      obtain ⟨rfl, Nq78, hh78⟩ := hQ78
      have N78 := Fr.app N10 Nq78
      show own_Ends p e below _ (T78.setTop (mkF m 20 #[.val (.ref rt), .val (.ref s1), .val (.ref r2), .unset, .unset] [(.ref em)]))
      exact own_retAH X78 hx hZ hh78 HH10 hEL hlocks hret rfl rfl (hb hby own_d_prog_24_method_6_code_20) (by decide) (by decide) ⟨em, rfl, N78, by rw [hh78]; exact ⟨K11, (XE.ext f77.2), Or.inl ⟨hc14_12, (FE.ext f77.2)⟩⟩⟩
  · refine own_astoreN X2 hx #[.val (.ref rt), .val (.ref s1), .val (.ref r2), .unset, .unset] (hb hby own_d_prog_24_method_6_code_7) rfl rfl rfl ?_
    refine own_aloadN X2 hx (hb hby own_d_prog_24_method_6_code_8) rfl rfl rfl ?_
    refine own_aloadN X2 hx (hb hby own_d_prog_24_method_6_code_9) rfl rfl rfl ?_
    refine own_arraylength X2 hx hZ rfl V_r2 (hb hby own_d_prog_24_method_6_code_10) rfl ?_
    have f79 := (O0.keep Kq2 all0)
    have f80 := (Es1.keep Kq2)
    have f81 := (Vs1.keep Kq2 nin0)
    have f82 := (Cs1.keep Kq2 nin0)
    have f83 := (Ks1.keep Kq2 nin0)
    refine own_staticH X2 hx hZ (y := (⟨"com/example/lockstitch/lockstitch/engine/tree/ResourcePath", "isResourceName", "(Ljava/lang/String;I)Z"⟩ : MethodName)) hown (hw _ (List.mem_of_getElem? (i := 80) rfl)) (hw _ (List.mem_of_getElem? (i := 81) rfl)) (hw _ (List.mem_of_getElem? (i := 14) rfl)) (hw _ (List.mem_of_getElem? (i := 82) rfl)) (by decide) HH3 hEL rfl (by decide) (W := 0) (by decide) (by decide) (by decide) [(.ref s1), (.int (2 : Int32))] [] (by rw [hml]; rfl) (own_isR2 l Z a0 hw s1 b1 zc T2.heap n0 hEL f79 SC hzc ⟨_, _, f80, f81, f82, f83, CB1⟩) own_pd29 rfl rfl rfl (hb hby own_d_prog_24_method_6_code_11) rfl ?_
    intro v84 T84 L84 X84 hQ84 hZ hown HH84 A84
    obtain ⟨rfl, Nq84, Kq84⟩ := hQ84
    have N84 := Fr.app N2 Nq84
    have K85 := K4.trans Kq84 all0
    show own_Ends p e below _ (T84.setTop (mkF m 14 #[.val (.ref rt), .val (.ref s1), .val (.ref r2), .unset, .unset] [(.int (own_okN b1))]))
    refine own_if_ne X84 hx (hb hby own_d_prog_24_method_6_code_14) (by decide) rfl rfl (fun hc14_86 => ?_) (fun hc14_86 => ?_)
    · refine own_new X84 hx hZ hown (hw _ (List.mem_of_getElem? (i := 129) rfl)) (hw _ (List.mem_of_getElem? (i := 130) rfl)) (hw _ (List.mem_of_getElem? (i := 131) rfl)) rfl (hb hby own_d_prog_24_method_6_code_21) (by decide) (by decide) rfl ?_
      intro T87 h87 b87 X87 e87 g87 E87 A87 D87
      have f88 := (f79.keep Kq84 all0)
      have g_b87 : n0 ≤ b87 := Nat.le_trans (own_oz f88) (Nat.le_of_eq g87.symm)
      have sz_b87 : h0.size ≤ b87 := Nat.le_trans K85.1 (Nat.le_of_eq g87.symm)
      have HH89 := HH84.ext E87
      have K90 := K85.ext E87
      have Fb87_modCount : Fld Z h87 b87 "java/util/AbstractList" "modCount" "I" (.int (0 : Int32)) := D87 (Or.inl (hw _ (List.mem_of_getElem? (i := 163) rfl))) (ty := .int) (by decide)
      have Fb87_elementData : Fld Z h87 b87 "java/util/ArrayList" "elementData" "[Ljava/lang/Object;" .null := D87 (Or.inl (hw _ (List.mem_of_getElem? (i := 167) rfl))) (ty := (.array (.object "java/lang/Object"))) (by decide)
      have Fb87_size : Fld Z h87 b87 "java/util/ArrayList" "size" "I" (.int (0 : Int32)) := D87 (Or.inl (hw _ (List.mem_of_getElem? (i := 217) rfl))) (ty := .int) (by decide)
      refine own_dup X87 hx (hb hby own_d_prog_24_method_6_code_24) rfl rfl ?_
      refine own_aloadN X87 hx (hb hby own_d_prog_24_method_6_code_25) rfl rfl rfl ?_
      have f91 := (f88.ext E87)
      refine own_getF X87 hx hZ hown (host := "") (Or.inl (hw _ (List.mem_of_getElem? (i := 132) rfl))) Via.refl e87 (FNR.ext f91.2) (hb hby own_d_prog_24_method_6_code_26) rfl ?_
      intro T92 X92 e92
      refine own_iface X92 hx hZ (xi := (⟨"java/util/List", "size", "()I"⟩ : MethodName)) (y := (⟨"java/util/ImmutableCollections$ListN", "size", "()I"⟩ : MethodName)) hown (hw _ (List.mem_of_getElem? (i := 134) rfl)) (hw _ (List.mem_of_getElem? (i := 135) rfl)) (mvT hZ (hw _ (List.mem_of_getElem? (i := 136) rfl))) (hw _ (List.mem_of_getElem? (i := 137) rfl)) (hw _ (List.mem_of_getElem? (i := 138) rfl)) (hw _ (List.mem_of_getElem? (i := 139) rfl)) (hw _ (List.mem_of_getElem? (i := 140) rfl)) (hw _ (List.mem_of_getElem? (i := 141) rfl)) (hw _ (List.mem_of_getElem? (i := 142) rfl)) (hw _ (List.mem_of_getElem? (i := 143) rfl)) (by decide) e92 (by decide) (W := 2) (by decide) (by decide) (by decide) [] [(.ref b87), (.ref b87)] (by rw [hml]; rfl) (XN.ext f91.2) (own_lnS l Z a0 hw nl c1 _ h87 n0 (VE.ext f91.2) OA (FEN.ext f91.2)) own_pd15 rfl rfl rfl (hb hby own_d_prog_24_method_6_code_29) rfl ?_
      intro v93 T93 L93 X93 hQ93
      obtain ⟨rfl, Nq93, hh93⟩ := hQ93
      have N93 := Fr.app N84 Nq93
      show own_Ends p e below _ (T93.setTop (mkF m 34 #[.val (.ref rt), .val (.ref s1), .val (.ref r2), .unset, .unset] [(.int (0 : Int32)), (.ref b87), (.ref b87)]))
      refine own_iconst X93 hx (1 : Int32) (hb hby own_d_prog_24_method_6_code_34) (by decide) rfl ?_
      refine own_iadd X93 hx (hb hby own_d_prog_24_method_6_code_35) rfl ?_
      rw [show ((0 : Int32) + (1 : Int32)) = (1 : Int32) from by decide]
      refine own_special X93 hx hZ (y := (⟨"java/util/ArrayList", "<init>", "(I)V"⟩ : MethodName)) rfl hown (hw _ (List.mem_of_getElem? (i := 146) rfl)) (hw _ (List.mem_of_getElem? (i := 147) rfl)) (hw _ (List.mem_of_getElem? (i := 131) rfl)) (hw _ (List.mem_of_getElem? (i := 148) rfl)) (by decide) hh93 (by decide) (W := 1) (by decide) (by decide) (by decide) [(.int (1 : Int32))] [(.ref b87)] (by rw [hml]; rfl) (a := b87) (own_aliI l Z a0 hw b87 h87 n0 f91 g_b87 A87 D87) own_pd30 rfl rfl rfl (hb hby own_d_prog_24_method_6_code_36) rfl ?_
      intro v94 T94 L94 X94 hQ94
      obtain ⟨rfl, Nq94, Kq94, ed94, ke94, g_ed94, sz_ed94, Al94, Ve94, Oe94⟩ := hQ94
      have sz_ed94 := Nat.le_trans K90.1 sz_ed94
      have N94 := Fr.app N93 Nq94
      have HH95 := HH89.keep Kq94 (sfS (Safe.exa hZ.alike A87 (by decide) (by decide)) sf0)
      have K96 := K90.trans Kq94 (allS (Or.inr sz_b87) all0)
      obtain ⟨El94, Ml94, Dl94, Sl94⟩ := Al94
      show own_Ends p e below _ (T94.setTop (mkF m 39 #[.val (.ref rt), .val (.ref s1), .val (.ref r2), .unset, .unset] [(.ref b87)]))
      refine own_astoreN X94 hx #[.val (.ref rt), .val (.ref s1), .val (.ref r2), .val (.ref b87), .unset] (hb hby own_d_prog_24_method_6_code_39) rfl rfl rfl ?_
      refine own_aloadN X94 hx (hb hby own_d_prog_24_method_6_code_40) rfl rfl rfl ?_
      refine own_aloadN X94 hx (hb hby own_d_prog_24_method_6_code_41) rfl rfl rfl ?_
      have f97 := (f91.keep Kq94 (allS g_b87 all0))
      refine own_getF X94 hx hZ hown (host := "") (Or.inl (hw _ (List.mem_of_getElem? (i := 132) rfl))) Via.refl rfl (FNR.ext f97.2) (hb hby own_d_prog_24_method_6_code_42) rfl ?_
      intro T98 X98 e98
      refine own_iface X98 hx hZ (xi := (⟨"java/util/List", "addAll", "(Ljava/util/Collection;)Z"⟩ : MethodName)) (y := (⟨"java/util/ArrayList", "addAll", "(Ljava/util/Collection;)Z"⟩ : MethodName)) hown (hw _ (List.mem_of_getElem? (i := 168) rfl)) (hw _ (List.mem_of_getElem? (i := 169) rfl)) (mvT hZ (hw _ (List.mem_of_getElem? (i := 170) rfl))) (hw _ (List.mem_of_getElem? (i := 171) rfl)) (hw _ (List.mem_of_getElem? (i := 172) rfl)) (hw _ (List.mem_of_getElem? (i := 173) rfl)) (hw _ (List.mem_of_getElem? (i := 174) rfl)) (hw _ (List.mem_of_getElem? (i := 175) rfl)) (hw _ (List.mem_of_getElem? (i := 131) rfl)) (hw _ (List.mem_of_getElem? (i := 176) rfl)) (by decide) e98 (by decide) (W := 0) (by decide) (by decide) (by decide) [(.ref nl)] [] (by rw [hml]; rfl) El94 (own_addA l Z a0 hw b87 ed94 nl (0 : Int32) c1 mr _ T94.heap n0 f97 M (VE.ext f97.2) OA (FEN.ext f97.2) (XN.ext f97.2) g_b87 ⟨El94, Ml94, Dl94, Sl94⟩) own_pd31 rfl rfl rfl (hb hby own_d_prog_24_method_6_code_45) rfl ?_
      intro v99 T99 L99 X99 hQ99
      obtain ⟨rfl, Nq99, Kq99, Al99⟩ := hQ99
      have N99 := Fr.app N94 Nq99
      have HH100 := HH95.keep Kq99 (sfS (Safe.exa hZ.alike El94 (by decide) (by decide)) sf0)
      have K101 := K96.trans Kq99 (allS (Or.inr sz_b87) all0)
      obtain ⟨El99, Ml99, Dl99, Sl99⟩ := Al99
      show own_Ends p e below _ (T99.setTop (mkF m 50 #[.val (.ref rt), .val (.ref s1), .val (.ref r2), .val (.ref b87), .unset] [(.int (0 : Int32))]))
      refine own_pop X99 hx (hb hby own_d_prog_24_method_6_code_50) rfl rfl ?_
      refine own_aloadN X99 hx (hb hby own_d_prog_24_method_6_code_51) rfl rfl rfl ?_
      refine own_aloadN X99 hx (hb hby own_d_prog_24_method_6_code_52) rfl rfl rfl ?_
      have f102 := (Ve94.keep Kq99 (ninS (Ne.symm (Exa.neArv El94 Ve94 (hw _ (List.mem_of_getElem? (i := 130) rfl)))) nin0))
      have f103 := ((((f80.keep Kq84).ext E87).keep Kq94).keep Kq99)
      refine own_iface X99 hx hZ (xi := (⟨"java/util/List", "add", "(Ljava/lang/Object;)Z"⟩ : MethodName)) (y := (⟨"java/util/ArrayList", "add", "(Ljava/lang/Object;)Z"⟩ : MethodName)) hown (hw _ (List.mem_of_getElem? (i := 208) rfl)) (hw _ (List.mem_of_getElem? (i := 209) rfl)) (mvT hZ (hw _ (List.mem_of_getElem? (i := 210) rfl))) (hw _ (List.mem_of_getElem? (i := 211) rfl)) (hw _ (List.mem_of_getElem? (i := 212) rfl)) (hw _ (List.mem_of_getElem? (i := 213) rfl)) (hw _ (List.mem_of_getElem? (i := 214) rfl)) (hw _ (List.mem_of_getElem? (i := 175) rfl)) (hw _ (List.mem_of_getElem? (i := 131) rfl)) (hw _ (List.mem_of_getElem? (i := 215) rfl)) (by decide) rfl (by decide) (W := 0) (by decide) (by decide) (by decide) [(.ref s1)] [] (by rw [hml]; rfl) El99 (own_add1 l Z a0 hw b87 s1 ed94 _ ((0 : Int32) + (1 : Int32)) T99.heap n0 g_b87 g_ed94 ⟨El99, Ml99, Dl99, Sl99⟩ f102 Oe94 (Ins.of_exa f103 (hw _ (List.mem_of_getElem? (i := 223) rfl)))) own_pd16 rfl rfl rfl (hb hby own_d_prog_24_method_6_code_53) rfl ?_
      intro v104 T104 L104 X104 hQ104
      obtain ⟨rfl, Nq104, Kq104, Al104, Ve104⟩ := hQ104
      have N104 := Fr.app N99 Nq104
      have HH105 := HH100.keep Kq104 (sfS (Safe.exa hZ.alike El99 (by decide) (by decide)) (sfS (Safe.arv hZ.alike f102 (by decide)) sf0))
      have K106 := K101.trans Kq104 (allS (Or.inr sz_b87) (allS (Or.inr sz_ed94) all0))
      obtain ⟨El104, Ml104, Dl104, Sl104⟩ := Al104
      show own_Ends p e below _ (T104.setTop (mkF m 58 #[.val (.ref rt), .val (.ref s1), .val (.ref r2), .val (.ref b87), .unset] [(.int (1 : Int32))]))
      refine own_pop X104 hx (hb hby own_d_prog_24_method_6_code_58) rfl rfl ?_
      refine own_aloadN X104 hx (hb hby own_d_prog_24_method_6_code_59) rfl rfl rfl ?_
      have f107 := ((f97.keep Kq99 (allS g_b87 all0)).keep Kq104 (allS g_b87 (allS g_ed94 all0)))
      refine own_getF X104 hx hZ hown (host := "") (Or.inl (hw _ (List.mem_of_getElem? (i := 224) rfl))) Via.refl rfl (FKR.ext f107.2) (hb hby own_d_prog_24_method_6_code_60) rfl ?_
      intro T108 X108 e108
      refine own_aloadN X108 hx (hb hby own_d_prog_24_method_6_code_63) rfl rfl rfl ?_
      refine own_getF X108 hx hZ hown (host := "") (Or.inl (hw _ (List.mem_of_getElem? (i := 224) rfl))) Via.refl e108 (FKR.ext f107.2) (hb hby own_d_prog_24_method_6_code_64) rfl ?_
      intro T109 X109 e109
      refine own_arraylength X109 hx hZ e109 (VK.ext f107.2) (hb hby own_d_prog_24_method_6_code_67) rfl ?_
      refine own_aloadN X109 hx (hb hby own_d_prog_24_method_6_code_68) rfl rfl rfl ?_
      have f110 := (((((V_r2.keep Kq84 nin0).ext E87).keep Kq94 (ninS (Nat.ne_of_lt (Nat.lt_of_lt_of_le (V_r2.keep Kq84 nin0).lt (Nat.le_of_eq g87.symm))) nin0)).keep Kq99 (ninS (Nat.ne_of_lt (Nat.lt_of_lt_of_le (V_r2.keep Kq84 nin0).lt (Nat.le_of_eq g87.symm))) nin0)).keep Kq104 (ninS (Nat.ne_of_lt (Nat.lt_of_lt_of_le (V_r2.keep Kq84 nin0).lt (Nat.le_of_eq g87.symm))) (ninS (own_neV (((V_r2.keep Kq84 nin0).ext E87).keep Kq94 (ninS (Nat.ne_of_lt (Nat.lt_of_lt_of_le (V_r2.keep Kq84 nin0).lt (Nat.le_of_eq g87.symm))) nin0)) Ve94 (by decide)) nin0)))
      refine own_arraylength X109 hx hZ e109 f110 (hb hby own_d_prog_24_method_6_code_69) rfl ?_
      refine own_iadd X109 hx (hb hby own_d_prog_24_method_6_code_70) rfl ?_
      rw [show ((0 : Int32) + (2 : Int32)) = (2 : Int32) from by decide]
      refine own_iconst X109 hx (1 : Int32) (hb hby own_d_prog_24_method_6_code_71) (by decide) rfl ?_
      refine own_iadd X109 hx (hb hby own_d_prog_24_method_6_code_72) rfl ?_
      rw [show ((2 : Int32) + (1 : Int32)) = (3 : Int32) from by decide]
      have f111 := (f103.keep Kq104)
      have f112 := (((((f83.keep Kq84 nin0).ext E87).keep Kq94 (ninS (Nat.ne_of_lt (Nat.lt_of_lt_of_le (f83.keep Kq84 nin0).lt (Nat.le_of_eq g87.symm))) nin0)).keep Kq99 (ninS (Nat.ne_of_lt (Nat.lt_of_lt_of_le (f83.keep Kq84 nin0).lt (Nat.le_of_eq g87.symm))) nin0)).keep Kq104 (ninS (Nat.ne_of_lt (Nat.lt_of_lt_of_le (f83.keep Kq84 nin0).lt (Nat.le_of_eq g87.symm))) (ninS (own_neV (((f83.keep Kq84 nin0).ext E87).keep Kq94 (ninS (Nat.ne_of_lt (Nat.lt_of_lt_of_le (f83.keep Kq84 nin0).lt (Nat.le_of_eq g87.symm))) nin0)) Ve94 (by decide)) nin0)))
      refine own_static X109 hx hZ (y := (⟨"java/util/Arrays", "copyOf", "([BI)[B"⟩ : MethodName)) hown (hw _ (List.mem_of_getElem? (i := 226) rfl)) (hw _ (List.mem_of_getElem? (i := 227) rfl)) (hw _ (List.mem_of_getElem? (i := 188) rfl)) (hw _ (List.mem_of_getElem? (i := 228) rfl)) (by decide) e109 (by decide) (W := 0) (by decide) (by decide) (by decide) [(.ref ky), (.int (3 : Int32))] [] (by rw [hml]; rfl) (own_cpB3 l Z a0 hw ky _ T104.heap n0 f107 (VK.ext f107.2)) own_pd32 rfl rfl rfl (hb hby own_d_prog_24_method_6_code_73) rfl ?_
      intro v113 T113 L113 X113 hQ113
      obtain ⟨b113, k113, rfl, Nq113, Kq113, g_b113, sr_b113, V113⟩ := hQ113
      have sz_b113 := Nat.le_trans K106.1 sr_b113
      have Y_b113 := own_sfK (Safe.new sr_b113) Kq113 sf0 HH105
      have N113 := Fr.app N104 Nq113
      have HH114 := HH105.keep Kq113 sf0
      have K115 := K106.trans Kq113 all0
      show own_Ends p e below _ (T113.setTop (mkF m 76 #[.val (.ref rt), .val (.ref s1), .val (.ref r2), .val (.ref b87), .unset] [(.ref b113)]))
      refine own_astore X113 hx #[.val (.ref rt), .val (.ref s1), .val (.ref r2), .val (.ref b87), .val (.ref b113)] (hb hby own_d_prog_24_method_6_code_76) rfl rfl rfl ?_
      refine own_aloadN X113 hx (hb hby own_d_prog_24_method_6_code_78) rfl rfl rfl ?_
      refine own_iconst X113 hx (0 : Int32) (hb hby own_d_prog_24_method_6_code_79) (by decide) rfl ?_
      refine own_aload X113 hx (hb hby own_d_prog_24_method_6_code_80) rfl rfl rfl ?_
      refine own_aloadN X113 hx (hb hby own_d_prog_24_method_6_code_82) rfl rfl rfl ?_
      have f116 := (f107.keep Kq113 all0)
      refine own_getF X113 hx hZ hown (host := "") (Or.inl (hw _ (List.mem_of_getElem? (i := 224) rfl))) Via.refl rfl (FKR.ext f116.2) (hb hby own_d_prog_24_method_6_code_83) rfl ?_
      intro T117 X117 e117
      refine own_arraylength X117 hx hZ e117 (VK.ext f116.2) (hb hby own_d_prog_24_method_6_code_86) rfl ?_
      refine own_aloadN X117 hx (hb hby own_d_prog_24_method_6_code_87) rfl rfl rfl ?_
      have f118 := (f110.keep Kq113 nin0)
      refine own_arraylength X117 hx hZ e117 f118 (hb hby own_d_prog_24_method_6_code_88) rfl ?_
      refine own_cpA X117 hx hZ hown (hw _ (List.mem_of_getElem? (i := 229) rfl)) (hw _ (List.mem_of_getElem? (i := 205) rfl)) (hw _ (List.mem_of_getElem? (i := 203) rfl)) (hw _ (List.mem_of_getElem? (i := 204) rfl)) e117 f118 V113 [(.int y0_r2), (.int y1_r2)] (Or.inl ⟨rfl, rfl⟩) (by decide) (by decide) (by decide) (by decide) (by decide) rfl (Nat.le_of_ble_eq_true rfl) N113 g_b113 (by rw [hml]; rfl) (hb hby own_d_prog_24_method_6_code_89) (by decide) 0 rfl (by decide) rfl ?_
      intro T119 h119 L119 X119 e119 N119 Kq119 V119q
      have HH120 := HH114.keep Kq119 (sfS Y_b113 sf0)
      have K121 := K115.trans Kq119 (allS (Or.inr sz_b113) all0)
      have V119 : Arv Z h119 b113 _ .byte (3 : Int32) [(.int y0_r2), (.int y1_r2), (.int (0 : Int32))] (.int (0 : Int32)) := V119q
      refine own_aload X119 hx (hb hby own_d_prog_24_method_6_code_92) rfl rfl rfl ?_
      refine own_aload X119 hx (hb hby own_d_prog_24_method_6_code_94) rfl rfl rfl ?_
      refine own_arraylength X119 hx hZ e119 V119 (hb hby own_d_prog_24_method_6_code_96) rfl ?_
      refine own_iconst X119 hx (1 : Int32) (hb hby own_d_prog_24_method_6_code_97) (by decide) rfl ?_
      refine own_isub X119 hx (hb hby own_d_prog_24_method_6_code_98) rfl ?_
      rw [show ((3 : Int32) - (1 : Int32)) = (2 : Int32) from by decide]
      refine own_iconst X119 hx (0 : Int32) (hb hby own_d_prog_24_method_6_code_99) (by decide) rfl ?_
      have f123 := (own_sfK Y_b113 Kq119 (sfS Y_b113 sf0) HH114)
      refine own_stB X119 hx hZ e119 V119 ⟨by decide, by decide⟩ 2 rfl (Nat.le_of_ble_eq_true rfl) (by decide) N119 g_b113 (hb hby own_d_prog_24_method_6_code_100) rfl ?_
      intro T122 h122 X122 e122 W122 N122 V122
      have HH124 := HH120.wr W122 f123
      have K125 := K121.wr W122 (Or.inr sz_b113)
      refine own_new X122 hx hZ hown (hw _ (List.mem_of_getElem? (i := 230) rfl)) (hw _ (List.mem_of_getElem? (i := 231) rfl)) (hw _ (List.mem_of_getElem? (i := 14) rfl)) e122 (hb hby own_d_prog_24_method_6_code_101) (by decide) (by decide) rfl ?_
      intro T126 h126 b126 X126 e126 g126 E126 A126 D126
      have f127 := ((f116.keep Kq119 (allS g_b113 all0)).wr W122 g_b113)
      have g_b126 : n0 ≤ b126 := Nat.le_trans (own_oz f127) (Nat.le_of_eq g126.symm)
      have sz_b126 : h0.size ≤ b126 := Nat.le_trans K125.1 (Nat.le_of_eq g126.symm)
      have HH128 := HH124.ext E126
      have K129 := K125.ext E126
      have Fb126_names : Fld Z h126 b126 "com/example/lockstitch/lockstitch/engine/tree/ResourcePath" "names" "Ljava/util/List;" .null := D126 (Or.inr (hw _ (List.mem_of_getElem? (i := 133) rfl))) (ty := (.object "java/util/List")) (by decide)
      have Fb126_key : Fld Z h126 b126 "com/example/lockstitch/lockstitch/engine/tree/ResourcePath" "key" "[B" .null := D126 (Or.inr (hw _ (List.mem_of_getElem? (i := 225) rfl))) (ty := (.array .byte)) (by decide)
      refine own_dup X126 hx (hb hby own_d_prog_24_method_6_code_104) rfl rfl ?_
      refine own_aloadN X126 hx (hb hby own_d_prog_24_method_6_code_105) rfl rfl rfl ?_
      have f130 := (f127.ext E126)
      have f131 := ((((El104.keep Kq113).keep Kq119).wr W122).ext E126)
      have f132 := ((((Ml104.keep Kq113 nin0).keep Kq119 (ninS (Ne.symm (Ne.symm (Exa.neArv (El104.keep Kq113) V113 (hw _ (List.mem_of_getElem? (i := 130) rfl))))) nin0)).other W122 (Or.inl (Ne.symm (Ne.symm (Exa.neArv (El104.keep Kq113) V113 (hw _ (List.mem_of_getElem? (i := 130) rfl))))))).ext E126)
      have f133 := ((((Dl104.keep Kq113 nin0).keep Kq119 (ninS (Ne.symm (Ne.symm (Exa.neArv (El104.keep Kq113) V113 (hw _ (List.mem_of_getElem? (i := 130) rfl))))) nin0)).other W122 (Or.inl (Ne.symm (Ne.symm (Exa.neArv (El104.keep Kq113) V113 (hw _ (List.mem_of_getElem? (i := 130) rfl))))))).ext E126)
      have f134 := ((((Sl104.keep Kq113 nin0).keep Kq119 (ninS (Ne.symm (Ne.symm (Exa.neArv (El104.keep Kq113) V113 (hw _ (List.mem_of_getElem? (i := 130) rfl))))) nin0)).other W122 (Or.inl (Ne.symm (Ne.symm (Exa.neArv (El104.keep Kq113) V113 (hw _ (List.mem_of_getElem? (i := 130) rfl))))))).ext E126)
      have f135 := ((((f111.keep Kq113).keep Kq119).wr W122).ext E126)
      have f136 := ((((Ve104.keep Kq113 nin0).keep Kq119 (ninS (own_neV (Ve104.keep Kq113 nin0) V113 (by decide)) nin0)).other W122 (own_neV (Ve104.keep Kq113 nin0) V113 (by decide))).ext E126)
      refine own_static X126 hx hZ (y := (⟨"java/util/List", "copyOf", "(Ljava/util/Collection;)Ljava/util/List;"⟩ : MethodName)) hown (hw _ (List.mem_of_getElem? (i := 232) rfl)) (hw _ (List.mem_of_getElem? (i := 233) rfl)) (hw _ (List.mem_of_getElem? (i := 234) rfl)) (hw _ (List.mem_of_getElem? (i := 235) rfl)) (by decide) e126 (by decide) (W := 2) (by decide) (by decide) (by decide) [(.ref b87)] [(.ref b126), (.ref b126)] (by rw [hml]; rfl) (own_cpy1 l Z a0 hw b87 ed94 s1 _ (((0 : Int32) + (1 : Int32)) + (1 : Int32)) eo mr h126 n0 f130 SX XX M ⟨f131, f132, f133, f134⟩ f135 f136 Oe94) own_pd25 rfl rfl rfl (hb hby own_d_prog_24_method_6_code_106) rfl ?_
      intro v137 T137 L137 X137 hQ137
      obtain ⟨b137, rfl, Nq137, Kq137, g_b137, sz_b137, Il137⟩ := hQ137
      have sz_b137 := Nat.le_trans K129.1 sz_b137
      have N137 := Fr.app N122 Nq137
      have HH138 := HH128.keep Kq137 sf0
      have K139 := K129.trans Kq137 all0
      obtain ⟨Ei137, Fi137, Gi137⟩ := Il137
      show own_Ends p e below _ (T137.setTop (mkF m 109 #[.val (.ref rt), .val (.ref s1), .val (.ref r2), .val (.ref b87), .val (.ref b113)] [(.ref b137), (.ref b126), (.ref b126)]))
      refine own_aload X137 hx (hb hby own_d_prog_24_method_6_code_109) rfl rfl rfl ?_
      have f140 := (A126.keep Kq137)
      have f141 := (Fb126_names.keep Kq137 nin0)
      have f142 := (Fb126_key.keep Kq137 nin0)
      refine own_special X137 hx hZ (y := (⟨"com/example/lockstitch/lockstitch/engine/tree/ResourcePath", "<init>", "(Ljava/util/List;[B)V"⟩ : MethodName)) rfl hown (hw _ (List.mem_of_getElem? (i := 295) rfl)) (hw _ (List.mem_of_getElem? (i := 296) rfl)) (hw _ (List.mem_of_getElem? (i := 14) rfl)) (hw _ (List.mem_of_getElem? (i := 297) rfl)) (by decide) rfl (by decide) (W := 1) (by decide) (by decide) (by decide) [(.ref b137), (.ref b113)] [(.ref b126)] (by rw [hml]; rfl) (a := b126) (own_rpI l Z a0 hw b126 b137 b113 T137.heap n0 g_b126 f140 f141 f142) own_pd33 rfl rfl rfl (hb hby own_d_prog_24_method_6_code_111) rfl ?_
      intro v143 T143 L143 X143 hQ143
      obtain ⟨rfl, Nq143, Kq143, Er143⟩ := hQ143
      have N143 := Fr.app N137 Nq143
      have HH144 := HH138.keep Kq143 (sfS (Safe.exa hZ.alike f140 (by decide) (by decide)) sf0)
      have K145 := K139.trans Kq143 (allS (Or.inr sz_b126) all0)
      show own_Ends p e below _ (T143.setTop (mkF m 114 #[.val (.ref rt), .val (.ref s1), .val (.ref r2), .val (.ref b87), .val (.ref b113)] [(.ref b126)]))
      have f146 := ((f130.keep Kq137 all0).keep Kq143 (allS g_b126 all0))
      refine own_static X143 hx hZ (y := (⟨"java/util/Optional", "of", "(Ljava/lang/Object;)Ljava/util/Optional;"⟩ : MethodName)) hown (hw _ (List.mem_of_getElem? (i := 299) rfl)) (hw _ (List.mem_of_getElem? (i := 300) rfl)) (hw _ (List.mem_of_getElem? (i := 301) rfl)) (hw _ (List.mem_of_getElem? (i := 302) rfl)) (by decide) rfl (by decide) (W := 0) (by decide) (by decide) (by decide) [(.ref b126)] [] (by rw [hml]; rfl) (own_optOf l Z a0 hw b126 T143.heap n0 f146) own_pd34 rfl rfl rfl (hb hby own_d_prog_24_method_6_code_114) rfl ?_
      intro v147 T147 L147 X147 hQ147
      obtain ⟨op147, rfl, Nq147, Kq147, Eo147, Fo147⟩ := hQ147
      have N147 := Fr.app N143 Nq147
      have HH148 := HH144.keep Kq147 sf0
      have K149 := K145.trans Kq147 all0
      show own_Ends p e below _ (T147.setTop (mkF m 117 #[.val (.ref rt), .val (.ref s1), .val (.ref r2), .val (.ref b87), .val (.ref b113)] [(.ref op147)]))
      have f150 := (Er143.keep Kq147)
      exact own_retAH X147 hx hZ rfl HH148 hEL hlocks hret rfl rfl (hb hby own_d_prog_24_method_6_code_117) (by decide) (by decide) ⟨op147, rfl, N147, by exact ⟨K149, Eo147, Or.inr ⟨hc14_86, b126, f150, Fo147⟩⟩⟩
    · have f151 := (f79.keep Kq84 all0)
      refine own_static X84 hx hZ (y := (⟨"java/util/Optional", "empty", "()Ljava/util/Optional;"⟩ : MethodName)) hown (hw _ (List.mem_of_getElem? (i := 364) rfl)) (hw _ (List.mem_of_getElem? (i := 365) rfl)) (hw _ (List.mem_of_getElem? (i := 301) rfl)) (hw _ (List.mem_of_getElem? (i := 366) rfl)) (by decide) rfl (by decide) (W := 0) (by decide) (by decide) (by decide) [] [] (by rw [hml]; rfl) (own_oem l Z a0 hw em T84.heap n0 f151 SE) own_pd35 rfl rfl rfl (hb hby own_d_prog_24_method_6_code_17) rfl ?_
      intro v152 T152 L152 X152 hQ152
      obtain ⟨rfl, Nq152, hh152⟩ := hQ152
      have N152 := Fr.app N84 Nq152
      show own_Ends p e below _ (T152.setTop (mkF m 20 #[.val (.ref rt), .val (.ref s1), .val (.ref r2), .unset, .unset] [(.ref em)]))
      exact own_retAH X152 hx hZ hh152 HH84 hEL hlocks hret rfl rfl (hb hby own_d_prog_24_method_6_code_20) (by decide) (by decide) ⟨em, rfl, N152, by rw [hh152]; exact ⟨K85, (XE.ext f151.2), Or.inl ⟨hc14_86, (FE.ext f151.2)⟩⟩⟩
set_option maxRecDepth 65536 in
set_option maxHeartbeats 40000000 in
theorem own_law (l : Launch) (Z : State) (a0 : Array Value) (hw : ∀ d ∈ tables_1, d.before a0 Z = true) (p1 p4 : Int64) (p2 p3 : Int32) (rt u8 em eo mr nl c1 ky : Addr) (kc kk : ClassId) (zc : Int32) (h0 : Heap) (n0 : Nat) (hEL : EW Z a0 consts_1) (O0 : Old Z n0 h0) (SC : Sta Z Z.heap "java/lang/String" "COMPACT_STRINGS" "Z" (.int zc)) (hzc : ¬ zc = 0) (SI : Sta Z Z.heap "sun/nio/cs/UTF_8" "INSTANCE" "Lsun/nio/cs/UTF_8;" (.ref u8)) (SU : Sta Z Z.heap "java/nio/charset/StandardCharsets" "UTF_8" "Ljava/nio/charset/Charset;" (.ref u8)) (SE : Sta Z Z.heap "java/util/Optional" "EMPTY" "Ljava/util/Optional;" (.ref em)) (XE : Exa Z Z.heap em "java/util/Optional") (FE : Fld Z Z.heap em "java/util/Optional" "value" "Ljava/lang/Object;" .null) (SX : Sta Z Z.heap "java/util/ImmutableCollections" "EMPTY" "Ljava/lang/Object;" (.ref eo)) (XX : Exa Z Z.heap eo "java/lang/Object") (M : own_Mir Z "[Ljava/lang/Object;" mr) (XR : Exa Z Z.heap rt "com/example/lockstitch/lockstitch/engine/tree/ResourcePath") (FNR : Fld Z Z.heap rt "com/example/lockstitch/lockstitch/engine/tree/ResourcePath" "names" "Ljava/util/List;" (.ref nl)) (XN : Exa Z Z.heap nl "java/util/ImmutableCollections$ListN") (FEN : Fld Z Z.heap nl "java/util/ImmutableCollections$ListN" "elements" "[Ljava/lang/Object;" (.ref c1)) (VE : Arv Z Z.heap c1 kc (.object "java/lang/Object") (0 : Int32) [] .null) (OA : Z.vm.findClass "[Ljava/lang/Object;" = some kc) (FKR : Fld Z Z.heap rt "com/example/lockstitch/lockstitch/engine/tree/ResourcePath" "key" "[B" (.ref ky)) (VK : Arv Z Z.heap ky kk .byte (0 : Int32) [] (.int (0 : Int32))) (SR : Sta Z Z.heap "com/example/lockstitch/lockstitch/engine/tree/ResourcePath" "ROOT" "Lcom/example/lockstitch/lockstitch/engine/tree/ResourcePath;" (.ref rt)) :
    own_MetH l x code maxLocals ret room_1 Z consts_1 #[(.long p1), (.int p2), (.int p3), (.long p4)] h0 (fun v h L => v = some (.int 1) ∧ Fr n0 L) := by
  refine own_metH (plainFor_of_name own_pn_com_example_lockstitch_lockstitch_engine_tree_SyncTokenWholeUpToPinLaw) ?_
  intro p e s m below meth c T0 hx hby hml hZ hown hnm hret hlocks X0 e0 hh0 HH0
  have ef : entryFrame m #[(.long p1), (.int p2), (.int p3), (.long p4)] maxLocals = mkF m 0 #[.val (.long p1), .second, .val (.int p2), .val (.int p3), .val (.long p4), .second, .unset, .unset, .unset, .unset, .unset, .unset] [] := by first | (simp [entryFrame, mkF, argsToLocals, Value.category, maxLocals]; done) | rfl
  refine own_entry ef ?_
  have N0 := Fr.nil n0
  have hwS := own_hwS hw
  have K0 := Keep.refl h0 []
  refine own_iloadN X0 hx (hb hby at_0) rfl rfl ?_
  refine own_sipush X0 hx (255 : Int32) (hb hby at_1) (by decide) rfl ?_
  refine own_iand X0 hx (hb hby at_4) rfl ?_
  refine own_i2c X0 hx (hb hby at_5) rfl ?_
  have hc501 := own_ch p2
  generalize ((p2 &&& (255 : Int32)).toUInt32.toUInt16.toUInt32.toInt32) = c501 at hc501 ⊢
  refine own_istore X0 hx #[.val (.long p1), .second, .val (.int p2), .val (.int p3), .val (.long p4), .second, .val (.int c501), .unset, .unset, .unset, .unset, .unset] (hb hby at_6) rfl rfl ?_
  refine own_iloadN X0 hx (hb hby at_8) rfl rfl ?_
  refine own_iconst X0 hx (1 : Int32) (hb hby at_9) (by decide) rfl ?_
  refine own_iand X0 hx (hb hby at_10) rfl ?_
  refine own_if_eq X0 hx (hb hby at_11) (by decide) rfl rfl (fun hc11_502 => ?_) (fun hc11_502 => ?_)
  · refine own_iconst X0 hx (0 : Int32) (hb hby at_18) (by decide) rfl ?_
    refine own_istore X0 hx #[.val (.long p1), .second, .val (.int p2), .val (.int p3), .val (.long p4), .second, .val (.int c501), .val (.int (0 : Int32)), .unset, .unset, .unset, .unset] (hb hby at_19) rfl rfl ?_
    refine own_iload X0 hx (hb hby at_21) rfl rfl ?_
    refine own_bipush X0 hx (47 : Int32) (hb hby at_23) (by decide) rfl ?_
    refine own_icmp_eq X0 hx (hb hby at_25) (by decide) rfl rfl (fun hc25_503 => ?_) (fun hc25_503 => ?_)
    · refine own_iconst X0 hx (0 : Int32) (hb hby at_44) (by decide) rfl ?_
      refine own_istore X0 hx #[.val (.long p1), .second, .val (.int p2), .val (.int p3), .val (.long p4), .second, .val (.int c501), .val (.int (0 : Int32)), .val (.int (0 : Int32)), .unset, .unset, .unset] (hb hby at_45) rfl rfl ?_
      refine own_iload X0 hx (hb hby at_47) rfl rfl ?_
      refine own_ifT X0 hx (hb hby at_49) (by decide) rfl (by decide) ?_
      refine own_lloadN X0 hx (hb hby at_58) rfl rfl ?_
      refine own_lstore X0 hx #[.val (.long p1), .second, .val (.int p2), .val (.int p3), .val (.long p4), .second, .val (.int c501), .val (.int (0 : Int32)), .val (.int (0 : Int32)), .val (.long p1), .second, .unset] (hb hby at_59) rfl rfl ?_
      refine own_new X0 hx hZ hown (hw _ (List.mem_of_getElem? (i := 0) rfl)) (hw _ (List.mem_of_getElem? (i := 1) rfl)) (hw _ (List.mem_of_getElem? (i := 2) rfl)) e0 (hb hby at_61) (by decide) (by decide) rfl ?_
      intro T504 h504 b504 X504 e504 g504 E504 A504 D504
      have g_b504 : n0 ≤ b504 := Nat.le_trans (own_oz O0) (Nat.le_of_eq g504.symm)
      have sz_b504 : h0.size ≤ b504 := Nat.le_trans K0.1 (Nat.le_of_eq g504.symm)
      have HH505 := HH0.ext E504
      have K506 := K0.ext E504
      have Fb504_history : Fld Z h504 b504 "com/example/lockstitch/lockstitch/engine/tree/SyncToken" "history" "Ljava/lang/String;" .null := D504 (Or.inr (hw _ (List.mem_of_getElem? (i := 318) rfl))) (ty := (.object "java/lang/String")) (by decide)
      have Fb504_collection : Fld Z h504 b504 "com/example/lockstitch/lockstitch/engine/tree/SyncToken" "collection" "Ljava/lang/String;" .null := D504 (Or.inr (hw _ (List.mem_of_getElem? (i := 320) rfl))) (ty := (.object "java/lang/String")) (by decide)
      have Fb504_revision : Fld Z h504 b504 "com/example/lockstitch/lockstitch/engine/tree/SyncToken" "revision" "J" (.long (0 : Int64)) := D504 (Or.inr (hw _ (List.mem_of_getElem? (i := 322) rfl))) (ty := .long) (by decide)
      have Fb504_inside : Fld Z h504 b504 "com/example/lockstitch/lockstitch/engine/tree/SyncToken" "inside" "Lcom/example/lockstitch/lockstitch/engine/tree/ResourcePath;" .null := D504 (Or.inr (hw _ (List.mem_of_getElem? (i := 331) rfl))) (ty := (.object "com/example/lockstitch/lockstitch/engine/tree/ResourcePath")) (by decide)
      have Fb504_asFile : Fld Z h504 b504 "com/example/lockstitch/lockstitch/engine/tree/SyncToken" "asFile" "Z" (.int (0 : Int32)) := D504 (Or.inr (hw _ (List.mem_of_getElem? (i := 338) rfl))) (ty := .boolean) (by decide)
      have Fb504_begun : Fld Z h504 b504 "com/example/lockstitch/lockstitch/engine/tree/SyncToken" "begun" "J" (.long (0 : Int64)) := D504 (Or.inr (hw _ (List.mem_of_getElem? (i := 348) rfl))) (ty := .long) (by decide)
      refine own_dup X504 hx (hb hby at_64) rfl rfl ?_
      refine own_ldcS X504 hx hZ hown (hw _ (List.mem_of_getElem? (i := 3) rfl)) hwS e504 HH505 hEL (List.mem_of_getElem? (i := 2) rfl) (vs := ([.int (104 : Int32)] : List Value)) (z := (1 : Int32)) (by decide +kernel) (by decide) (by decide) (hb hby at_65) 4 (by decide) (by decide) (by decide) (by decide) rfl ?_
      intro ls507 T507 h507 lt507 k507 X507 e507 E507 hZ hown HH507 A507 Ex507 Fc507 Fv507 V507 ne507
      have K508 := K506.ext E507
      refine own_ldcS X507 hx hZ hown (hw _ (List.mem_of_getElem? (i := 11) rfl)) hwS e507 HH507 hEL (List.mem_of_getElem? (i := 3) rfl) (vs := ([.int (99 : Int32)] : List Value)) (z := (1 : Int32)) (by decide +kernel) (by decide) (by decide) (hb hby at_67) 4 (by decide) (by decide) (by decide) (by decide) rfl ?_
      intro ls509 T509 h509 lt509 k509 X509 e509 E509 hZ hown HH509 A509 Ex509 Fc509 Fv509 V509 ne509
      have K510 := K508.ext E509
      refine own_lloadN X509 hx (hb hby at_69) rfl rfl ?_
      have f511 := (((O0.ext E504).ext E507).ext E509)
      refine own_static X509 hx hZ (y := (⟨"com/example/lockstitch/lockstitch/engine/tree/ResourcePath", "root", "()Lcom/example/lockstitch/lockstitch/engine/tree/ResourcePath;"⟩ : MethodName)) hown (hw _ (List.mem_of_getElem? (i := 12) rfl)) (hw _ (List.mem_of_getElem? (i := 13) rfl)) (hw _ (List.mem_of_getElem? (i := 14) rfl)) (hw _ (List.mem_of_getElem? (i := 15) rfl)) (by decide) e509 (by decide) (W := 6) (by decide) (by decide) (by decide) [] [(.long p1), (.ref ls509), (.ref ls507), (.ref b504), (.ref b504)] (by rw [hml]; rfl) (own_root l Z a0 hw rt h509 n0 f511 SR) own_pd36 rfl rfl rfl (hb hby at_70) rfl ?_
      intro v512 T512 L512 X512 hQ512
      obtain ⟨rfl, Nq512, hh512⟩ := hQ512
      have N512 := Fr.app N0 Nq512
      show own_Ends p e below _ (T512.setTop (mkF m 73 #[.val (.long p1), .second, .val (.int p2), .val (.int p3), .val (.long p4), .second, .val (.int c501), .val (.int (0 : Int32)), .val (.int (0 : Int32)), .val (.long p1), .second, .unset] [(.ref rt), (.long p1), (.ref ls509), (.ref ls507), (.ref b504), (.ref b504)]))
      refine own_iload X512 hx (hb hby at_73) rfl rfl ?_
      refine own_static X512 hx hZ (y := (⟨"java/lang/String", "valueOf", "(C)Ljava/lang/String;"⟩ : MethodName)) hown (hw _ (List.mem_of_getElem? (i := 18) rfl)) (hw _ (List.mem_of_getElem? (i := 19) rfl)) (hw _ (List.mem_of_getElem? (i := 4) rfl)) (hw _ (List.mem_of_getElem? (i := 20) rfl)) (by decide) hh512 (by decide) (W := 7) (by decide) (by decide) (by decide) [(.int c501)] [(.ref rt), (.long p1), (.ref ls509), (.ref ls507), (.ref b504), (.ref b504)] (by rw [hml]; rfl) (own_valueOf l Z a0 hw c501 zc h509 n0 f511 SC hzc hc501) own_pd37 rfl rfl rfl (hb hby at_75) rfl ?_
      intro v513 T513 L513 X513 hQ513
      obtain ⟨a513, rfl, Nq513, Kq513, g_a513, sz_a513, Ss513⟩ := hQ513
      have sz_a513 := Nat.le_trans K510.1 sz_a513
      have N513 := Fr.app N512 Nq513
      have HH514 := HH509.keep Kq513 sf0
      have K515 := K510.trans Kq513 all0
      obtain ⟨t513, kb513, Es513, Vs513, Cs513, Ks513, CB513⟩ := Ss513
      show own_Ends p e below _ (T513.setTop (mkF m 78 #[.val (.long p1), .second, .val (.int p2), .val (.int p3), .val (.long p4), .second, .val (.int c501), .val (.int (0 : Int32)), .val (.int (0 : Int32)), .val (.long p1), .second, .unset] [(.ref a513), (.ref rt), (.long p1), (.ref ls509), (.ref ls507), (.ref b504), (.ref b504)]))
      have f516 := (f511.keep Kq513 all0)
      refine own_virtualH X513 hx hZ (y := (⟨"com/example/lockstitch/lockstitch/engine/tree/ResourcePath", "child", "(Ljava/lang/String;)Ljava/util/Optional;"⟩ : MethodName)) (z := (⟨"com/example/lockstitch/lockstitch/engine/tree/ResourcePath", "child", "(Ljava/lang/String;)Ljava/util/Optional;"⟩ : MethodName)) hown (hw _ (List.mem_of_getElem? (i := 39) rfl)) (hw _ (List.mem_of_getElem? (i := 40) rfl)) (notFace_of_selects (args := #[]) (mvT hZ (hw _ (List.mem_of_getElem? (i := 42) rfl)))) (hw _ (List.mem_of_getElem? (i := 42) rfl)) (hw _ (List.mem_of_getElem? (i := 41) rfl)) (hw _ (List.mem_of_getElem? (i := 14) rfl)) (hw _ (List.mem_of_getElem? (i := 43) rfl)) (by decide) HH514 hEL rfl (by decide) (W := 6) (by decide) (by decide) (by decide) [(.ref a513)] [(.long p1), (.ref ls509), (.ref ls507), (.ref b504), (.ref b504)] (by rw [hml]; rfl) (XR.ext f516.2) (own_child l Z a0 hw rt a513 u8 em eo mr nl c1 ky kc kk (c501.toInt8.toInt32) zc T513.heap n0 hEL f516 SC hzc SI SU SE XE FE SX XX M XR FNR XN FEN VE OA FKR VK ⟨_, _, Es513, Vs513, Cs513, Ks513, CB513⟩) own_pd38 rfl rfl rfl (hb hby at_78) rfl ?_
      intro v517 T517 L517 X517 hQ517 hZ hown HH517 A517
      obtain ⟨op517, rfl, Nq517, Kq517, Eo517, D517⟩ := hQ517
      have N517 := Fr.app N513 Nq517
      have K518 := K515.trans Kq517 all0
      obtain ⟨-, Fo517⟩ := D517.resolve_right (fun q => q.1 (by rw [hc25_503]; decide))
      show own_Ends p e below _ (T517.setTop (mkF m 81 #[.val (.long p1), .second, .val (.int p2), .val (.int p3), .val (.long p4), .second, .val (.int c501), .val (.int (0 : Int32)), .val (.int (0 : Int32)), .val (.long p1), .second, .unset] [(.ref op517), (.long p1), (.ref ls509), (.ref ls507), (.ref b504), (.ref b504)]))
      refine own_iload X517 hx (hb hby at_81) rfl rfl ?_
      refine own_lload X517 hx (hb hby at_83) rfl rfl ?_
      have f519 := ((((A504.ext E507).ext E509).keep Kq513).keep Kq517)
      refine own_special X517 hx hZ (y := (⟨"com/example/lockstitch/lockstitch/engine/tree/SyncToken", "<init>", "(Ljava/lang/String;Ljava/lang/String;JLjava/util/Optional;ZJ)V"⟩ : MethodName)) rfl hown (hw _ (List.mem_of_getElem? (i := 313) rfl)) (hw _ (List.mem_of_getElem? (i := 314) rfl)) (hw _ (List.mem_of_getElem? (i := 2) rfl)) (hw _ (List.mem_of_getElem? (i := 315) rfl)) (by decide) rfl (by decide) (W := 1) (by decide) (by decide) (by decide) [(.ref ls507), (.ref ls509), (.long p1), (.ref op517), (.int (0 : Int32)), (.long p4)] [(.ref b504)] (by rw [hml]; rfl) (a := b504) (own_stiN0 l Z a0 hw b504 ls507 ls509 op517 p1 p4 T517.heap n0 g_b504 f519 (fun L p => (((((D504 L p).ext E507).ext E509).keep Kq513 nin0).keep Kq517 nin0)) Eo517 Fo517) own_pd39 rfl rfl rfl (hb hby at_85) rfl ?_
      intro v520 T520 L520 X520 hQ520
      obtain ⟨rfl, Nq520, Kq520, Et520, Rt520, It520, Bt520⟩ := hQ520
      have N520 := Fr.app N517 Nq520
      have HH521 := HH517.keep Kq520 (sfS (Safe.exa hZ.alike f519 (by decide) (by decide)) sf0)
      have K522 := K518.trans Kq520 (allS (Or.inr sz_b504) all0)
      show own_Ends p e below _ (T520.setTop (mkF m 88 #[.val (.long p1), .second, .val (.int p2), .val (.int p3), .val (.long p4), .second, .val (.int c501), .val (.int (0 : Int32)), .val (.int (0 : Int32)), .val (.long p1), .second, .unset] [(.ref b504)]))
      refine own_astore X520 hx #[.val (.long p1), .second, .val (.int p2), .val (.int p3), .val (.long p4), .second, .val (.int c501), .val (.int (0 : Int32)), .val (.int (0 : Int32)), .val (.long p1), .second, .val (.ref b504)] (hb hby at_88) rfl rfl rfl ?_
      refine own_aload X520 hx (hb hby at_90) rfl rfl rfl ?_
      refine own_virtual X520 hx hZ (y := (⟨"com/example/lockstitch/lockstitch/engine/tree/SyncToken", "wholeUpTo", "()J"⟩ : MethodName)) (z := (⟨"com/example/lockstitch/lockstitch/engine/tree/SyncToken", "wholeUpTo", "()J"⟩ : MethodName)) hown (hw _ (List.mem_of_getElem? (i := 349) rfl)) (hw _ (List.mem_of_getElem? (i := 340) rfl)) (notFace_of_selects (args := #[]) (mvT hZ (hw _ (List.mem_of_getElem? (i := 342) rfl)))) (hw _ (List.mem_of_getElem? (i := 342) rfl)) (hw _ (List.mem_of_getElem? (i := 341) rfl)) (hw _ (List.mem_of_getElem? (i := 2) rfl)) (hw _ (List.mem_of_getElem? (i := 343) rfl)) (by decide) rfl (by decide) (W := 0) (by decide) (by decide) (by decide) [] [] (by rw [hml]; rfl) Et520 (own_whoN l Z a0 hw b504 p1 T520.heap n0 It520 Rt520) own_pd26 rfl rfl rfl (hb hby at_92) rfl ?_
      intro v523 T523 L523 X523 hQ523
      obtain ⟨rfl, Nq523, hh523⟩ := hQ523
      have N523 := Fr.app N520 Nq523
      show own_Ends p e below _ (T523.setTop (mkF m 95 #[.val (.long p1), .second, .val (.int p2), .val (.int p3), .val (.long p4), .second, .val (.int c501), .val (.int (0 : Int32)), .val (.int (0 : Int32)), .val (.long p1), .second, .val (.ref b504)] [(.long p1)]))
      refine own_lload X523 hx (hb hby at_95) rfl rfl ?_
      refine own_lcmp X523 hx (hb hby at_97) rfl ?_
      refine own_ifF X523 hx (hb hby at_98) rfl (teq ((lw_eq _ _).mpr rfl)).2 ?_
      refine own_aload X523 hx (hb hby at_101) rfl rfl rfl ?_
      refine own_virtual X523 hx hZ (y := (⟨"com/example/lockstitch/lockstitch/engine/tree/SyncToken", "begun", "()J"⟩ : MethodName)) (z := (⟨"com/example/lockstitch/lockstitch/engine/tree/SyncToken", "begun", "()J"⟩ : MethodName)) hown (hw _ (List.mem_of_getElem? (i := 350) rfl)) (hw _ (List.mem_of_getElem? (i := 351) rfl)) (notFace_of_selects (args := #[]) (mvT hZ (hw _ (List.mem_of_getElem? (i := 353) rfl)))) (hw _ (List.mem_of_getElem? (i := 353) rfl)) (hw _ (List.mem_of_getElem? (i := 352) rfl)) (hw _ (List.mem_of_getElem? (i := 2) rfl)) (hw _ (List.mem_of_getElem? (i := 354) rfl)) (by decide) hh523 (by decide) (W := 0) (by decide) (by decide) (by decide) [] [] (by rw [hml]; rfl) Et520 (own_beg l Z a0 hw b504 (own_minL p4 p1) T520.heap n0 Bt520) own_pd26 rfl rfl rfl (hb hby at_103) rfl ?_
      intro v524 T524 L524 X524 hQ524
      obtain ⟨rfl, Nq524, hh524⟩ := hQ524
      have N524 := Fr.app N523 Nq524
      show own_Ends p e below _ (T524.setTop (mkF m 106 #[.val (.long p1), .second, .val (.int p2), .val (.int p3), .val (.long p4), .second, .val (.int c501), .val (.int (0 : Int32)), .val (.int (0 : Int32)), .val (.long p1), .second, .val (.ref b504)] [(.long (own_minL p4 p1))]))
      refine own_lload X524 hx (hb hby at_106) rfl rfl ?_
      refine own_lload X524 hx (hb hby at_108) rfl rfl ?_
      refine own_static X524 hx hZ (y := (⟨"java/lang/Math", "min", "(JJ)J"⟩ : MethodName)) hown (hw _ (List.mem_of_getElem? (i := 355) rfl)) (hw _ (List.mem_of_getElem? (i := 345) rfl)) (hw _ (List.mem_of_getElem? (i := 121) rfl)) (hw _ (List.mem_of_getElem? (i := 346) rfl)) (by decide) hh524 (by decide) (W := 2) (by decide) (by decide) (by decide) [(.long p4), (.long p1)] [(.long (own_minL p4 p1))] (by rw [hml]; rfl) (own_mnL l Z a0 hw p4 p1 T520.heap n0) own_pd27 rfl rfl rfl (hb hby at_110) rfl ?_
      intro v525 T525 L525 X525 hQ525
      obtain ⟨rfl, Nq525, hh525⟩ := hQ525
      have N525 := Fr.app N524 Nq525
      show own_Ends p e below _ (T525.setTop (mkF m 113 #[.val (.long p1), .second, .val (.int p2), .val (.int p3), .val (.long p4), .second, .val (.int c501), .val (.int (0 : Int32)), .val (.int (0 : Int32)), .val (.long p1), .second, .val (.ref b504)] [(.long (own_minL p4 p1)), (.long (own_minL p4 p1))]))
      refine own_lcmp X525 hx (hb hby at_113) rfl ?_
      refine own_ifF X525 hx (hb hby at_114) rfl (teq ((lw_eq _ _).mpr rfl)).2 ?_
      refine own_iconst X525 hx (1 : Int32) (hb hby at_117) (by decide) rfl ?_
      refine own_goto X525 hx (hb hby at_118) (by decide) rfl ?_
      exact own_retNH X525 hx hZ hh525 HH521 hEL hlocks hret (by simp) (hb hby at_122) (by decide) (by decide) (by decide) ⟨rfl, N525⟩
    · refine own_iload X0 hx (hb hby at_28) rfl rfl ?_
      refine own_if_eq X0 hx (hb hby at_30) (by decide) rfl rfl (fun hc30_526 => ?_) (fun hc30_526 => ?_)
      · refine own_iconst X0 hx (0 : Int32) (hb hby at_44) (by decide) rfl ?_
        refine own_istore X0 hx #[.val (.long p1), .second, .val (.int p2), .val (.int p3), .val (.long p4), .second, .val (.int c501), .val (.int (0 : Int32)), .val (.int (0 : Int32)), .unset, .unset, .unset] (hb hby at_45) rfl rfl ?_
        refine own_iload X0 hx (hb hby at_47) rfl rfl ?_
        refine own_ifT X0 hx (hb hby at_49) (by decide) rfl (by decide) ?_
        refine own_lloadN X0 hx (hb hby at_58) rfl rfl ?_
        refine own_lstore X0 hx #[.val (.long p1), .second, .val (.int p2), .val (.int p3), .val (.long p4), .second, .val (.int c501), .val (.int (0 : Int32)), .val (.int (0 : Int32)), .val (.long p1), .second, .unset] (hb hby at_59) rfl rfl ?_
        refine own_new X0 hx hZ hown (hw _ (List.mem_of_getElem? (i := 0) rfl)) (hw _ (List.mem_of_getElem? (i := 1) rfl)) (hw _ (List.mem_of_getElem? (i := 2) rfl)) e0 (hb hby at_61) (by decide) (by decide) rfl ?_
        intro T527 h527 b527 X527 e527 g527 E527 A527 D527
        have g_b527 : n0 ≤ b527 := Nat.le_trans (own_oz O0) (Nat.le_of_eq g527.symm)
        have sz_b527 : h0.size ≤ b527 := Nat.le_trans K0.1 (Nat.le_of_eq g527.symm)
        have HH528 := HH0.ext E527
        have K529 := K0.ext E527
        have Fb527_history : Fld Z h527 b527 "com/example/lockstitch/lockstitch/engine/tree/SyncToken" "history" "Ljava/lang/String;" .null := D527 (Or.inr (hw _ (List.mem_of_getElem? (i := 318) rfl))) (ty := (.object "java/lang/String")) (by decide)
        have Fb527_collection : Fld Z h527 b527 "com/example/lockstitch/lockstitch/engine/tree/SyncToken" "collection" "Ljava/lang/String;" .null := D527 (Or.inr (hw _ (List.mem_of_getElem? (i := 320) rfl))) (ty := (.object "java/lang/String")) (by decide)
        have Fb527_revision : Fld Z h527 b527 "com/example/lockstitch/lockstitch/engine/tree/SyncToken" "revision" "J" (.long (0 : Int64)) := D527 (Or.inr (hw _ (List.mem_of_getElem? (i := 322) rfl))) (ty := .long) (by decide)
        have Fb527_inside : Fld Z h527 b527 "com/example/lockstitch/lockstitch/engine/tree/SyncToken" "inside" "Lcom/example/lockstitch/lockstitch/engine/tree/ResourcePath;" .null := D527 (Or.inr (hw _ (List.mem_of_getElem? (i := 331) rfl))) (ty := (.object "com/example/lockstitch/lockstitch/engine/tree/ResourcePath")) (by decide)
        have Fb527_asFile : Fld Z h527 b527 "com/example/lockstitch/lockstitch/engine/tree/SyncToken" "asFile" "Z" (.int (0 : Int32)) := D527 (Or.inr (hw _ (List.mem_of_getElem? (i := 338) rfl))) (ty := .boolean) (by decide)
        have Fb527_begun : Fld Z h527 b527 "com/example/lockstitch/lockstitch/engine/tree/SyncToken" "begun" "J" (.long (0 : Int64)) := D527 (Or.inr (hw _ (List.mem_of_getElem? (i := 348) rfl))) (ty := .long) (by decide)
        refine own_dup X527 hx (hb hby at_64) rfl rfl ?_
        refine own_ldcS X527 hx hZ hown (hw _ (List.mem_of_getElem? (i := 3) rfl)) hwS e527 HH528 hEL (List.mem_of_getElem? (i := 2) rfl) (vs := ([.int (104 : Int32)] : List Value)) (z := (1 : Int32)) (by decide +kernel) (by decide) (by decide) (hb hby at_65) 4 (by decide) (by decide) (by decide) (by decide) rfl ?_
        intro ls530 T530 h530 lt530 k530 X530 e530 E530 hZ hown HH530 A530 Ex530 Fc530 Fv530 V530 ne530
        have K531 := K529.ext E530
        refine own_ldcS X530 hx hZ hown (hw _ (List.mem_of_getElem? (i := 11) rfl)) hwS e530 HH530 hEL (List.mem_of_getElem? (i := 3) rfl) (vs := ([.int (99 : Int32)] : List Value)) (z := (1 : Int32)) (by decide +kernel) (by decide) (by decide) (hb hby at_67) 4 (by decide) (by decide) (by decide) (by decide) rfl ?_
        intro ls532 T532 h532 lt532 k532 X532 e532 E532 hZ hown HH532 A532 Ex532 Fc532 Fv532 V532 ne532
        have K533 := K531.ext E532
        refine own_lloadN X532 hx (hb hby at_69) rfl rfl ?_
        have f534 := (((O0.ext E527).ext E530).ext E532)
        refine own_static X532 hx hZ (y := (⟨"com/example/lockstitch/lockstitch/engine/tree/ResourcePath", "root", "()Lcom/example/lockstitch/lockstitch/engine/tree/ResourcePath;"⟩ : MethodName)) hown (hw _ (List.mem_of_getElem? (i := 12) rfl)) (hw _ (List.mem_of_getElem? (i := 13) rfl)) (hw _ (List.mem_of_getElem? (i := 14) rfl)) (hw _ (List.mem_of_getElem? (i := 15) rfl)) (by decide) e532 (by decide) (W := 6) (by decide) (by decide) (by decide) [] [(.long p1), (.ref ls532), (.ref ls530), (.ref b527), (.ref b527)] (by rw [hml]; rfl) (own_root l Z a0 hw rt h532 n0 f534 SR) own_pd36 rfl rfl rfl (hb hby at_70) rfl ?_
        intro v535 T535 L535 X535 hQ535
        obtain ⟨rfl, Nq535, hh535⟩ := hQ535
        have N535 := Fr.app N0 Nq535
        show own_Ends p e below _ (T535.setTop (mkF m 73 #[.val (.long p1), .second, .val (.int p2), .val (.int p3), .val (.long p4), .second, .val (.int c501), .val (.int (0 : Int32)), .val (.int (0 : Int32)), .val (.long p1), .second, .unset] [(.ref rt), (.long p1), (.ref ls532), (.ref ls530), (.ref b527), (.ref b527)]))
        refine own_iload X535 hx (hb hby at_73) rfl rfl ?_
        refine own_static X535 hx hZ (y := (⟨"java/lang/String", "valueOf", "(C)Ljava/lang/String;"⟩ : MethodName)) hown (hw _ (List.mem_of_getElem? (i := 18) rfl)) (hw _ (List.mem_of_getElem? (i := 19) rfl)) (hw _ (List.mem_of_getElem? (i := 4) rfl)) (hw _ (List.mem_of_getElem? (i := 20) rfl)) (by decide) hh535 (by decide) (W := 7) (by decide) (by decide) (by decide) [(.int c501)] [(.ref rt), (.long p1), (.ref ls532), (.ref ls530), (.ref b527), (.ref b527)] (by rw [hml]; rfl) (own_valueOf l Z a0 hw c501 zc h532 n0 f534 SC hzc hc501) own_pd37 rfl rfl rfl (hb hby at_75) rfl ?_
        intro v536 T536 L536 X536 hQ536
        obtain ⟨a536, rfl, Nq536, Kq536, g_a536, sz_a536, Ss536⟩ := hQ536
        have sz_a536 := Nat.le_trans K533.1 sz_a536
        have N536 := Fr.app N535 Nq536
        have HH537 := HH532.keep Kq536 sf0
        have K538 := K533.trans Kq536 all0
        obtain ⟨t536, kb536, Es536, Vs536, Cs536, Ks536, CB536⟩ := Ss536
        show own_Ends p e below _ (T536.setTop (mkF m 78 #[.val (.long p1), .second, .val (.int p2), .val (.int p3), .val (.long p4), .second, .val (.int c501), .val (.int (0 : Int32)), .val (.int (0 : Int32)), .val (.long p1), .second, .unset] [(.ref a536), (.ref rt), (.long p1), (.ref ls532), (.ref ls530), (.ref b527), (.ref b527)]))
        have f539 := (f534.keep Kq536 all0)
        refine own_virtualH X536 hx hZ (y := (⟨"com/example/lockstitch/lockstitch/engine/tree/ResourcePath", "child", "(Ljava/lang/String;)Ljava/util/Optional;"⟩ : MethodName)) (z := (⟨"com/example/lockstitch/lockstitch/engine/tree/ResourcePath", "child", "(Ljava/lang/String;)Ljava/util/Optional;"⟩ : MethodName)) hown (hw _ (List.mem_of_getElem? (i := 39) rfl)) (hw _ (List.mem_of_getElem? (i := 40) rfl)) (notFace_of_selects (args := #[]) (mvT hZ (hw _ (List.mem_of_getElem? (i := 42) rfl)))) (hw _ (List.mem_of_getElem? (i := 42) rfl)) (hw _ (List.mem_of_getElem? (i := 41) rfl)) (hw _ (List.mem_of_getElem? (i := 14) rfl)) (hw _ (List.mem_of_getElem? (i := 43) rfl)) (by decide) HH537 hEL rfl (by decide) (W := 6) (by decide) (by decide) (by decide) [(.ref a536)] [(.long p1), (.ref ls532), (.ref ls530), (.ref b527), (.ref b527)] (by rw [hml]; rfl) (XR.ext f539.2) (own_child l Z a0 hw rt a536 u8 em eo mr nl c1 ky kc kk (c501.toInt8.toInt32) zc T536.heap n0 hEL f539 SC hzc SI SU SE XE FE SX XX M XR FNR XN FEN VE OA FKR VK ⟨_, _, Es536, Vs536, Cs536, Ks536, CB536⟩) own_pd38 rfl rfl rfl (hb hby at_78) rfl ?_
        intro v540 T540 L540 X540 hQ540 hZ hown HH540 A540
        obtain ⟨op540, rfl, Nq540, Kq540, Eo540, D540⟩ := hQ540
        have N540 := Fr.app N536 Nq540
        have K541 := K538.trans Kq540 all0
        obtain ⟨-, Fo540⟩ := D540.resolve_right (fun q => q.1 (by rw [hc30_526]; decide))
        show own_Ends p e below _ (T540.setTop (mkF m 81 #[.val (.long p1), .second, .val (.int p2), .val (.int p3), .val (.long p4), .second, .val (.int c501), .val (.int (0 : Int32)), .val (.int (0 : Int32)), .val (.long p1), .second, .unset] [(.ref op540), (.long p1), (.ref ls532), (.ref ls530), (.ref b527), (.ref b527)]))
        refine own_iload X540 hx (hb hby at_81) rfl rfl ?_
        refine own_lload X540 hx (hb hby at_83) rfl rfl ?_
        have f542 := ((((A527.ext E530).ext E532).keep Kq536).keep Kq540)
        refine own_special X540 hx hZ (y := (⟨"com/example/lockstitch/lockstitch/engine/tree/SyncToken", "<init>", "(Ljava/lang/String;Ljava/lang/String;JLjava/util/Optional;ZJ)V"⟩ : MethodName)) rfl hown (hw _ (List.mem_of_getElem? (i := 313) rfl)) (hw _ (List.mem_of_getElem? (i := 314) rfl)) (hw _ (List.mem_of_getElem? (i := 2) rfl)) (hw _ (List.mem_of_getElem? (i := 315) rfl)) (by decide) rfl (by decide) (W := 1) (by decide) (by decide) (by decide) [(.ref ls530), (.ref ls532), (.long p1), (.ref op540), (.int (0 : Int32)), (.long p4)] [(.ref b527)] (by rw [hml]; rfl) (a := b527) (own_stiN0 l Z a0 hw b527 ls530 ls532 op540 p1 p4 T540.heap n0 g_b527 f542 (fun L p => (((((D527 L p).ext E530).ext E532).keep Kq536 nin0).keep Kq540 nin0)) Eo540 Fo540) own_pd39 rfl rfl rfl (hb hby at_85) rfl ?_
        intro v543 T543 L543 X543 hQ543
        obtain ⟨rfl, Nq543, Kq543, Et543, Rt543, It543, Bt543⟩ := hQ543
        have N543 := Fr.app N540 Nq543
        have HH544 := HH540.keep Kq543 (sfS (Safe.exa hZ.alike f542 (by decide) (by decide)) sf0)
        have K545 := K541.trans Kq543 (allS (Or.inr sz_b527) all0)
        show own_Ends p e below _ (T543.setTop (mkF m 88 #[.val (.long p1), .second, .val (.int p2), .val (.int p3), .val (.long p4), .second, .val (.int c501), .val (.int (0 : Int32)), .val (.int (0 : Int32)), .val (.long p1), .second, .unset] [(.ref b527)]))
        refine own_astore X543 hx #[.val (.long p1), .second, .val (.int p2), .val (.int p3), .val (.long p4), .second, .val (.int c501), .val (.int (0 : Int32)), .val (.int (0 : Int32)), .val (.long p1), .second, .val (.ref b527)] (hb hby at_88) rfl rfl rfl ?_
        refine own_aload X543 hx (hb hby at_90) rfl rfl rfl ?_
        refine own_virtual X543 hx hZ (y := (⟨"com/example/lockstitch/lockstitch/engine/tree/SyncToken", "wholeUpTo", "()J"⟩ : MethodName)) (z := (⟨"com/example/lockstitch/lockstitch/engine/tree/SyncToken", "wholeUpTo", "()J"⟩ : MethodName)) hown (hw _ (List.mem_of_getElem? (i := 349) rfl)) (hw _ (List.mem_of_getElem? (i := 340) rfl)) (notFace_of_selects (args := #[]) (mvT hZ (hw _ (List.mem_of_getElem? (i := 342) rfl)))) (hw _ (List.mem_of_getElem? (i := 342) rfl)) (hw _ (List.mem_of_getElem? (i := 341) rfl)) (hw _ (List.mem_of_getElem? (i := 2) rfl)) (hw _ (List.mem_of_getElem? (i := 343) rfl)) (by decide) rfl (by decide) (W := 0) (by decide) (by decide) (by decide) [] [] (by rw [hml]; rfl) Et543 (own_whoN l Z a0 hw b527 p1 T543.heap n0 It543 Rt543) own_pd26 rfl rfl rfl (hb hby at_92) rfl ?_
        intro v546 T546 L546 X546 hQ546
        obtain ⟨rfl, Nq546, hh546⟩ := hQ546
        have N546 := Fr.app N543 Nq546
        show own_Ends p e below _ (T546.setTop (mkF m 95 #[.val (.long p1), .second, .val (.int p2), .val (.int p3), .val (.long p4), .second, .val (.int c501), .val (.int (0 : Int32)), .val (.int (0 : Int32)), .val (.long p1), .second, .val (.ref b527)] [(.long p1)]))
        refine own_lload X546 hx (hb hby at_95) rfl rfl ?_
        refine own_lcmp X546 hx (hb hby at_97) rfl ?_
        refine own_ifF X546 hx (hb hby at_98) rfl (teq ((lw_eq _ _).mpr rfl)).2 ?_
        refine own_aload X546 hx (hb hby at_101) rfl rfl rfl ?_
        refine own_virtual X546 hx hZ (y := (⟨"com/example/lockstitch/lockstitch/engine/tree/SyncToken", "begun", "()J"⟩ : MethodName)) (z := (⟨"com/example/lockstitch/lockstitch/engine/tree/SyncToken", "begun", "()J"⟩ : MethodName)) hown (hw _ (List.mem_of_getElem? (i := 350) rfl)) (hw _ (List.mem_of_getElem? (i := 351) rfl)) (notFace_of_selects (args := #[]) (mvT hZ (hw _ (List.mem_of_getElem? (i := 353) rfl)))) (hw _ (List.mem_of_getElem? (i := 353) rfl)) (hw _ (List.mem_of_getElem? (i := 352) rfl)) (hw _ (List.mem_of_getElem? (i := 2) rfl)) (hw _ (List.mem_of_getElem? (i := 354) rfl)) (by decide) hh546 (by decide) (W := 0) (by decide) (by decide) (by decide) [] [] (by rw [hml]; rfl) Et543 (own_beg l Z a0 hw b527 (own_minL p4 p1) T543.heap n0 Bt543) own_pd26 rfl rfl rfl (hb hby at_103) rfl ?_
        intro v547 T547 L547 X547 hQ547
        obtain ⟨rfl, Nq547, hh547⟩ := hQ547
        have N547 := Fr.app N546 Nq547
        show own_Ends p e below _ (T547.setTop (mkF m 106 #[.val (.long p1), .second, .val (.int p2), .val (.int p3), .val (.long p4), .second, .val (.int c501), .val (.int (0 : Int32)), .val (.int (0 : Int32)), .val (.long p1), .second, .val (.ref b527)] [(.long (own_minL p4 p1))]))
        refine own_lload X547 hx (hb hby at_106) rfl rfl ?_
        refine own_lload X547 hx (hb hby at_108) rfl rfl ?_
        refine own_static X547 hx hZ (y := (⟨"java/lang/Math", "min", "(JJ)J"⟩ : MethodName)) hown (hw _ (List.mem_of_getElem? (i := 355) rfl)) (hw _ (List.mem_of_getElem? (i := 345) rfl)) (hw _ (List.mem_of_getElem? (i := 121) rfl)) (hw _ (List.mem_of_getElem? (i := 346) rfl)) (by decide) hh547 (by decide) (W := 2) (by decide) (by decide) (by decide) [(.long p4), (.long p1)] [(.long (own_minL p4 p1))] (by rw [hml]; rfl) (own_mnL l Z a0 hw p4 p1 T543.heap n0) own_pd27 rfl rfl rfl (hb hby at_110) rfl ?_
        intro v548 T548 L548 X548 hQ548
        obtain ⟨rfl, Nq548, hh548⟩ := hQ548
        have N548 := Fr.app N547 Nq548
        show own_Ends p e below _ (T548.setTop (mkF m 113 #[.val (.long p1), .second, .val (.int p2), .val (.int p3), .val (.long p4), .second, .val (.int c501), .val (.int (0 : Int32)), .val (.int (0 : Int32)), .val (.long p1), .second, .val (.ref b527)] [(.long (own_minL p4 p1)), (.long (own_minL p4 p1))]))
        refine own_lcmp X548 hx (hb hby at_113) rfl ?_
        refine own_ifF X548 hx (hb hby at_114) rfl (teq ((lw_eq _ _).mpr rfl)).2 ?_
        refine own_iconst X548 hx (1 : Int32) (hb hby at_117) (by decide) rfl ?_
        refine own_goto X548 hx (hb hby at_118) (by decide) rfl ?_
        exact own_retNH X548 hx hZ hh548 HH544 hEL hlocks hret (by simp) (hb hby at_122) (by decide) (by decide) (by decide) ⟨rfl, N548⟩
      · refine own_iload X0 hx (hb hby at_33) rfl rfl ?_
        refine own_bipush X0 hx (46 : Int32) (hb hby at_35) (by decide) rfl ?_
        refine own_icmp_eq X0 hx (hb hby at_37) (by decide) rfl rfl (fun hc37_549 => ?_) (fun hc37_549 => ?_)
        · refine own_iconst X0 hx (0 : Int32) (hb hby at_44) (by decide) rfl ?_
          refine own_istore X0 hx #[.val (.long p1), .second, .val (.int p2), .val (.int p3), .val (.long p4), .second, .val (.int c501), .val (.int (0 : Int32)), .val (.int (0 : Int32)), .unset, .unset, .unset] (hb hby at_45) rfl rfl ?_
          refine own_iload X0 hx (hb hby at_47) rfl rfl ?_
          refine own_ifT X0 hx (hb hby at_49) (by decide) rfl (by decide) ?_
          refine own_lloadN X0 hx (hb hby at_58) rfl rfl ?_
          refine own_lstore X0 hx #[.val (.long p1), .second, .val (.int p2), .val (.int p3), .val (.long p4), .second, .val (.int c501), .val (.int (0 : Int32)), .val (.int (0 : Int32)), .val (.long p1), .second, .unset] (hb hby at_59) rfl rfl ?_
          refine own_new X0 hx hZ hown (hw _ (List.mem_of_getElem? (i := 0) rfl)) (hw _ (List.mem_of_getElem? (i := 1) rfl)) (hw _ (List.mem_of_getElem? (i := 2) rfl)) e0 (hb hby at_61) (by decide) (by decide) rfl ?_
          intro T550 h550 b550 X550 e550 g550 E550 A550 D550
          have g_b550 : n0 ≤ b550 := Nat.le_trans (own_oz O0) (Nat.le_of_eq g550.symm)
          have sz_b550 : h0.size ≤ b550 := Nat.le_trans K0.1 (Nat.le_of_eq g550.symm)
          have HH551 := HH0.ext E550
          have K552 := K0.ext E550
          have Fb550_history : Fld Z h550 b550 "com/example/lockstitch/lockstitch/engine/tree/SyncToken" "history" "Ljava/lang/String;" .null := D550 (Or.inr (hw _ (List.mem_of_getElem? (i := 318) rfl))) (ty := (.object "java/lang/String")) (by decide)
          have Fb550_collection : Fld Z h550 b550 "com/example/lockstitch/lockstitch/engine/tree/SyncToken" "collection" "Ljava/lang/String;" .null := D550 (Or.inr (hw _ (List.mem_of_getElem? (i := 320) rfl))) (ty := (.object "java/lang/String")) (by decide)
          have Fb550_revision : Fld Z h550 b550 "com/example/lockstitch/lockstitch/engine/tree/SyncToken" "revision" "J" (.long (0 : Int64)) := D550 (Or.inr (hw _ (List.mem_of_getElem? (i := 322) rfl))) (ty := .long) (by decide)
          have Fb550_inside : Fld Z h550 b550 "com/example/lockstitch/lockstitch/engine/tree/SyncToken" "inside" "Lcom/example/lockstitch/lockstitch/engine/tree/ResourcePath;" .null := D550 (Or.inr (hw _ (List.mem_of_getElem? (i := 331) rfl))) (ty := (.object "com/example/lockstitch/lockstitch/engine/tree/ResourcePath")) (by decide)
          have Fb550_asFile : Fld Z h550 b550 "com/example/lockstitch/lockstitch/engine/tree/SyncToken" "asFile" "Z" (.int (0 : Int32)) := D550 (Or.inr (hw _ (List.mem_of_getElem? (i := 338) rfl))) (ty := .boolean) (by decide)
          have Fb550_begun : Fld Z h550 b550 "com/example/lockstitch/lockstitch/engine/tree/SyncToken" "begun" "J" (.long (0 : Int64)) := D550 (Or.inr (hw _ (List.mem_of_getElem? (i := 348) rfl))) (ty := .long) (by decide)
          refine own_dup X550 hx (hb hby at_64) rfl rfl ?_
          refine own_ldcS X550 hx hZ hown (hw _ (List.mem_of_getElem? (i := 3) rfl)) hwS e550 HH551 hEL (List.mem_of_getElem? (i := 2) rfl) (vs := ([.int (104 : Int32)] : List Value)) (z := (1 : Int32)) (by decide +kernel) (by decide) (by decide) (hb hby at_65) 4 (by decide) (by decide) (by decide) (by decide) rfl ?_
          intro ls553 T553 h553 lt553 k553 X553 e553 E553 hZ hown HH553 A553 Ex553 Fc553 Fv553 V553 ne553
          have K554 := K552.ext E553
          refine own_ldcS X553 hx hZ hown (hw _ (List.mem_of_getElem? (i := 11) rfl)) hwS e553 HH553 hEL (List.mem_of_getElem? (i := 3) rfl) (vs := ([.int (99 : Int32)] : List Value)) (z := (1 : Int32)) (by decide +kernel) (by decide) (by decide) (hb hby at_67) 4 (by decide) (by decide) (by decide) (by decide) rfl ?_
          intro ls555 T555 h555 lt555 k555 X555 e555 E555 hZ hown HH555 A555 Ex555 Fc555 Fv555 V555 ne555
          have K556 := K554.ext E555
          refine own_lloadN X555 hx (hb hby at_69) rfl rfl ?_
          have f557 := (((O0.ext E550).ext E553).ext E555)
          refine own_static X555 hx hZ (y := (⟨"com/example/lockstitch/lockstitch/engine/tree/ResourcePath", "root", "()Lcom/example/lockstitch/lockstitch/engine/tree/ResourcePath;"⟩ : MethodName)) hown (hw _ (List.mem_of_getElem? (i := 12) rfl)) (hw _ (List.mem_of_getElem? (i := 13) rfl)) (hw _ (List.mem_of_getElem? (i := 14) rfl)) (hw _ (List.mem_of_getElem? (i := 15) rfl)) (by decide) e555 (by decide) (W := 6) (by decide) (by decide) (by decide) [] [(.long p1), (.ref ls555), (.ref ls553), (.ref b550), (.ref b550)] (by rw [hml]; rfl) (own_root l Z a0 hw rt h555 n0 f557 SR) own_pd36 rfl rfl rfl (hb hby at_70) rfl ?_
          intro v558 T558 L558 X558 hQ558
          obtain ⟨rfl, Nq558, hh558⟩ := hQ558
          have N558 := Fr.app N0 Nq558
          show own_Ends p e below _ (T558.setTop (mkF m 73 #[.val (.long p1), .second, .val (.int p2), .val (.int p3), .val (.long p4), .second, .val (.int c501), .val (.int (0 : Int32)), .val (.int (0 : Int32)), .val (.long p1), .second, .unset] [(.ref rt), (.long p1), (.ref ls555), (.ref ls553), (.ref b550), (.ref b550)]))
          refine own_iload X558 hx (hb hby at_73) rfl rfl ?_
          refine own_static X558 hx hZ (y := (⟨"java/lang/String", "valueOf", "(C)Ljava/lang/String;"⟩ : MethodName)) hown (hw _ (List.mem_of_getElem? (i := 18) rfl)) (hw _ (List.mem_of_getElem? (i := 19) rfl)) (hw _ (List.mem_of_getElem? (i := 4) rfl)) (hw _ (List.mem_of_getElem? (i := 20) rfl)) (by decide) hh558 (by decide) (W := 7) (by decide) (by decide) (by decide) [(.int c501)] [(.ref rt), (.long p1), (.ref ls555), (.ref ls553), (.ref b550), (.ref b550)] (by rw [hml]; rfl) (own_valueOf l Z a0 hw c501 zc h555 n0 f557 SC hzc hc501) own_pd37 rfl rfl rfl (hb hby at_75) rfl ?_
          intro v559 T559 L559 X559 hQ559
          obtain ⟨a559, rfl, Nq559, Kq559, g_a559, sz_a559, Ss559⟩ := hQ559
          have sz_a559 := Nat.le_trans K556.1 sz_a559
          have N559 := Fr.app N558 Nq559
          have HH560 := HH555.keep Kq559 sf0
          have K561 := K556.trans Kq559 all0
          obtain ⟨t559, kb559, Es559, Vs559, Cs559, Ks559, CB559⟩ := Ss559
          show own_Ends p e below _ (T559.setTop (mkF m 78 #[.val (.long p1), .second, .val (.int p2), .val (.int p3), .val (.long p4), .second, .val (.int c501), .val (.int (0 : Int32)), .val (.int (0 : Int32)), .val (.long p1), .second, .unset] [(.ref a559), (.ref rt), (.long p1), (.ref ls555), (.ref ls553), (.ref b550), (.ref b550)]))
          have f562 := (f557.keep Kq559 all0)
          refine own_virtualH X559 hx hZ (y := (⟨"com/example/lockstitch/lockstitch/engine/tree/ResourcePath", "child", "(Ljava/lang/String;)Ljava/util/Optional;"⟩ : MethodName)) (z := (⟨"com/example/lockstitch/lockstitch/engine/tree/ResourcePath", "child", "(Ljava/lang/String;)Ljava/util/Optional;"⟩ : MethodName)) hown (hw _ (List.mem_of_getElem? (i := 39) rfl)) (hw _ (List.mem_of_getElem? (i := 40) rfl)) (notFace_of_selects (args := #[]) (mvT hZ (hw _ (List.mem_of_getElem? (i := 42) rfl)))) (hw _ (List.mem_of_getElem? (i := 42) rfl)) (hw _ (List.mem_of_getElem? (i := 41) rfl)) (hw _ (List.mem_of_getElem? (i := 14) rfl)) (hw _ (List.mem_of_getElem? (i := 43) rfl)) (by decide) HH560 hEL rfl (by decide) (W := 6) (by decide) (by decide) (by decide) [(.ref a559)] [(.long p1), (.ref ls555), (.ref ls553), (.ref b550), (.ref b550)] (by rw [hml]; rfl) (XR.ext f562.2) (own_child l Z a0 hw rt a559 u8 em eo mr nl c1 ky kc kk (c501.toInt8.toInt32) zc T559.heap n0 hEL f562 SC hzc SI SU SE XE FE SX XX M XR FNR XN FEN VE OA FKR VK ⟨_, _, Es559, Vs559, Cs559, Ks559, CB559⟩) own_pd38 rfl rfl rfl (hb hby at_78) rfl ?_
          intro v563 T563 L563 X563 hQ563 hZ hown HH563 A563
          obtain ⟨op563, rfl, Nq563, Kq563, Eo563, D563⟩ := hQ563
          have N563 := Fr.app N559 Nq563
          have K564 := K561.trans Kq563 all0
          obtain ⟨-, Fo563⟩ := D563.resolve_right (fun q => q.1 (by rw [hc37_549]; decide))
          show own_Ends p e below _ (T563.setTop (mkF m 81 #[.val (.long p1), .second, .val (.int p2), .val (.int p3), .val (.long p4), .second, .val (.int c501), .val (.int (0 : Int32)), .val (.int (0 : Int32)), .val (.long p1), .second, .unset] [(.ref op563), (.long p1), (.ref ls555), (.ref ls553), (.ref b550), (.ref b550)]))
          refine own_iload X563 hx (hb hby at_81) rfl rfl ?_
          refine own_lload X563 hx (hb hby at_83) rfl rfl ?_
          have f565 := ((((A550.ext E553).ext E555).keep Kq559).keep Kq563)
          refine own_special X563 hx hZ (y := (⟨"com/example/lockstitch/lockstitch/engine/tree/SyncToken", "<init>", "(Ljava/lang/String;Ljava/lang/String;JLjava/util/Optional;ZJ)V"⟩ : MethodName)) rfl hown (hw _ (List.mem_of_getElem? (i := 313) rfl)) (hw _ (List.mem_of_getElem? (i := 314) rfl)) (hw _ (List.mem_of_getElem? (i := 2) rfl)) (hw _ (List.mem_of_getElem? (i := 315) rfl)) (by decide) rfl (by decide) (W := 1) (by decide) (by decide) (by decide) [(.ref ls553), (.ref ls555), (.long p1), (.ref op563), (.int (0 : Int32)), (.long p4)] [(.ref b550)] (by rw [hml]; rfl) (a := b550) (own_stiN0 l Z a0 hw b550 ls553 ls555 op563 p1 p4 T563.heap n0 g_b550 f565 (fun L p => (((((D550 L p).ext E553).ext E555).keep Kq559 nin0).keep Kq563 nin0)) Eo563 Fo563) own_pd39 rfl rfl rfl (hb hby at_85) rfl ?_
          intro v566 T566 L566 X566 hQ566
          obtain ⟨rfl, Nq566, Kq566, Et566, Rt566, It566, Bt566⟩ := hQ566
          have N566 := Fr.app N563 Nq566
          have HH567 := HH563.keep Kq566 (sfS (Safe.exa hZ.alike f565 (by decide) (by decide)) sf0)
          have K568 := K564.trans Kq566 (allS (Or.inr sz_b550) all0)
          show own_Ends p e below _ (T566.setTop (mkF m 88 #[.val (.long p1), .second, .val (.int p2), .val (.int p3), .val (.long p4), .second, .val (.int c501), .val (.int (0 : Int32)), .val (.int (0 : Int32)), .val (.long p1), .second, .unset] [(.ref b550)]))
          refine own_astore X566 hx #[.val (.long p1), .second, .val (.int p2), .val (.int p3), .val (.long p4), .second, .val (.int c501), .val (.int (0 : Int32)), .val (.int (0 : Int32)), .val (.long p1), .second, .val (.ref b550)] (hb hby at_88) rfl rfl rfl ?_
          refine own_aload X566 hx (hb hby at_90) rfl rfl rfl ?_
          refine own_virtual X566 hx hZ (y := (⟨"com/example/lockstitch/lockstitch/engine/tree/SyncToken", "wholeUpTo", "()J"⟩ : MethodName)) (z := (⟨"com/example/lockstitch/lockstitch/engine/tree/SyncToken", "wholeUpTo", "()J"⟩ : MethodName)) hown (hw _ (List.mem_of_getElem? (i := 349) rfl)) (hw _ (List.mem_of_getElem? (i := 340) rfl)) (notFace_of_selects (args := #[]) (mvT hZ (hw _ (List.mem_of_getElem? (i := 342) rfl)))) (hw _ (List.mem_of_getElem? (i := 342) rfl)) (hw _ (List.mem_of_getElem? (i := 341) rfl)) (hw _ (List.mem_of_getElem? (i := 2) rfl)) (hw _ (List.mem_of_getElem? (i := 343) rfl)) (by decide) rfl (by decide) (W := 0) (by decide) (by decide) (by decide) [] [] (by rw [hml]; rfl) Et566 (own_whoN l Z a0 hw b550 p1 T566.heap n0 It566 Rt566) own_pd26 rfl rfl rfl (hb hby at_92) rfl ?_
          intro v569 T569 L569 X569 hQ569
          obtain ⟨rfl, Nq569, hh569⟩ := hQ569
          have N569 := Fr.app N566 Nq569
          show own_Ends p e below _ (T569.setTop (mkF m 95 #[.val (.long p1), .second, .val (.int p2), .val (.int p3), .val (.long p4), .second, .val (.int c501), .val (.int (0 : Int32)), .val (.int (0 : Int32)), .val (.long p1), .second, .val (.ref b550)] [(.long p1)]))
          refine own_lload X569 hx (hb hby at_95) rfl rfl ?_
          refine own_lcmp X569 hx (hb hby at_97) rfl ?_
          refine own_ifF X569 hx (hb hby at_98) rfl (teq ((lw_eq _ _).mpr rfl)).2 ?_
          refine own_aload X569 hx (hb hby at_101) rfl rfl rfl ?_
          refine own_virtual X569 hx hZ (y := (⟨"com/example/lockstitch/lockstitch/engine/tree/SyncToken", "begun", "()J"⟩ : MethodName)) (z := (⟨"com/example/lockstitch/lockstitch/engine/tree/SyncToken", "begun", "()J"⟩ : MethodName)) hown (hw _ (List.mem_of_getElem? (i := 350) rfl)) (hw _ (List.mem_of_getElem? (i := 351) rfl)) (notFace_of_selects (args := #[]) (mvT hZ (hw _ (List.mem_of_getElem? (i := 353) rfl)))) (hw _ (List.mem_of_getElem? (i := 353) rfl)) (hw _ (List.mem_of_getElem? (i := 352) rfl)) (hw _ (List.mem_of_getElem? (i := 2) rfl)) (hw _ (List.mem_of_getElem? (i := 354) rfl)) (by decide) hh569 (by decide) (W := 0) (by decide) (by decide) (by decide) [] [] (by rw [hml]; rfl) Et566 (own_beg l Z a0 hw b550 (own_minL p4 p1) T566.heap n0 Bt566) own_pd26 rfl rfl rfl (hb hby at_103) rfl ?_
          intro v570 T570 L570 X570 hQ570
          obtain ⟨rfl, Nq570, hh570⟩ := hQ570
          have N570 := Fr.app N569 Nq570
          show own_Ends p e below _ (T570.setTop (mkF m 106 #[.val (.long p1), .second, .val (.int p2), .val (.int p3), .val (.long p4), .second, .val (.int c501), .val (.int (0 : Int32)), .val (.int (0 : Int32)), .val (.long p1), .second, .val (.ref b550)] [(.long (own_minL p4 p1))]))
          refine own_lload X570 hx (hb hby at_106) rfl rfl ?_
          refine own_lload X570 hx (hb hby at_108) rfl rfl ?_
          refine own_static X570 hx hZ (y := (⟨"java/lang/Math", "min", "(JJ)J"⟩ : MethodName)) hown (hw _ (List.mem_of_getElem? (i := 355) rfl)) (hw _ (List.mem_of_getElem? (i := 345) rfl)) (hw _ (List.mem_of_getElem? (i := 121) rfl)) (hw _ (List.mem_of_getElem? (i := 346) rfl)) (by decide) hh570 (by decide) (W := 2) (by decide) (by decide) (by decide) [(.long p4), (.long p1)] [(.long (own_minL p4 p1))] (by rw [hml]; rfl) (own_mnL l Z a0 hw p4 p1 T566.heap n0) own_pd27 rfl rfl rfl (hb hby at_110) rfl ?_
          intro v571 T571 L571 X571 hQ571
          obtain ⟨rfl, Nq571, hh571⟩ := hQ571
          have N571 := Fr.app N570 Nq571
          show own_Ends p e below _ (T571.setTop (mkF m 113 #[.val (.long p1), .second, .val (.int p2), .val (.int p3), .val (.long p4), .second, .val (.int c501), .val (.int (0 : Int32)), .val (.int (0 : Int32)), .val (.long p1), .second, .val (.ref b550)] [(.long (own_minL p4 p1)), (.long (own_minL p4 p1))]))
          refine own_lcmp X571 hx (hb hby at_113) rfl ?_
          refine own_ifF X571 hx (hb hby at_114) rfl (teq ((lw_eq _ _).mpr rfl)).2 ?_
          refine own_iconst X571 hx (1 : Int32) (hb hby at_117) (by decide) rfl ?_
          refine own_goto X571 hx (hb hby at_118) (by decide) rfl ?_
          exact own_retNH X571 hx hZ hh571 HH567 hEL hlocks hret (by simp) (hb hby at_122) (by decide) (by decide) (by decide) ⟨rfl, N571⟩
        · refine own_iconst X0 hx (1 : Int32) (hb hby at_40) (by decide) rfl ?_
          refine own_goto X0 hx (hb hby at_41) (by decide) rfl ?_
          refine own_istore X0 hx #[.val (.long p1), .second, .val (.int p2), .val (.int p3), .val (.long p4), .second, .val (.int c501), .val (.int (0 : Int32)), .val (.int (1 : Int32)), .unset, .unset, .unset] (hb hby at_45) rfl rfl ?_
          refine own_iload X0 hx (hb hby at_47) rfl rfl ?_
          refine own_ifF X0 hx (hb hby at_49) rfl (by decide) ?_
          refine own_lloadN X0 hx (hb hby at_52) rfl rfl ?_
          refine own_lconst X0 hx (1 : Int64) (hb hby at_53) (by decide) rfl ?_
          refine own_lsub X0 hx (hb hby at_54) rfl ?_
          refine own_goto X0 hx (hb hby at_55) (by decide) rfl ?_
          refine own_lstore X0 hx #[.val (.long p1), .second, .val (.int p2), .val (.int p3), .val (.long p4), .second, .val (.int c501), .val (.int (0 : Int32)), .val (.int (1 : Int32)), .val (.long (p1 - (1 : Int64))), .second, .unset] (hb hby at_59) rfl rfl ?_
          refine own_new X0 hx hZ hown (hw _ (List.mem_of_getElem? (i := 0) rfl)) (hw _ (List.mem_of_getElem? (i := 1) rfl)) (hw _ (List.mem_of_getElem? (i := 2) rfl)) e0 (hb hby at_61) (by decide) (by decide) rfl ?_
          intro T572 h572 b572 X572 e572 g572 E572 A572 D572
          have g_b572 : n0 ≤ b572 := Nat.le_trans (own_oz O0) (Nat.le_of_eq g572.symm)
          have sz_b572 : h0.size ≤ b572 := Nat.le_trans K0.1 (Nat.le_of_eq g572.symm)
          have HH573 := HH0.ext E572
          have K574 := K0.ext E572
          have Fb572_history : Fld Z h572 b572 "com/example/lockstitch/lockstitch/engine/tree/SyncToken" "history" "Ljava/lang/String;" .null := D572 (Or.inr (hw _ (List.mem_of_getElem? (i := 318) rfl))) (ty := (.object "java/lang/String")) (by decide)
          have Fb572_collection : Fld Z h572 b572 "com/example/lockstitch/lockstitch/engine/tree/SyncToken" "collection" "Ljava/lang/String;" .null := D572 (Or.inr (hw _ (List.mem_of_getElem? (i := 320) rfl))) (ty := (.object "java/lang/String")) (by decide)
          have Fb572_revision : Fld Z h572 b572 "com/example/lockstitch/lockstitch/engine/tree/SyncToken" "revision" "J" (.long (0 : Int64)) := D572 (Or.inr (hw _ (List.mem_of_getElem? (i := 322) rfl))) (ty := .long) (by decide)
          have Fb572_inside : Fld Z h572 b572 "com/example/lockstitch/lockstitch/engine/tree/SyncToken" "inside" "Lcom/example/lockstitch/lockstitch/engine/tree/ResourcePath;" .null := D572 (Or.inr (hw _ (List.mem_of_getElem? (i := 331) rfl))) (ty := (.object "com/example/lockstitch/lockstitch/engine/tree/ResourcePath")) (by decide)
          have Fb572_asFile : Fld Z h572 b572 "com/example/lockstitch/lockstitch/engine/tree/SyncToken" "asFile" "Z" (.int (0 : Int32)) := D572 (Or.inr (hw _ (List.mem_of_getElem? (i := 338) rfl))) (ty := .boolean) (by decide)
          have Fb572_begun : Fld Z h572 b572 "com/example/lockstitch/lockstitch/engine/tree/SyncToken" "begun" "J" (.long (0 : Int64)) := D572 (Or.inr (hw _ (List.mem_of_getElem? (i := 348) rfl))) (ty := .long) (by decide)
          refine own_dup X572 hx (hb hby at_64) rfl rfl ?_
          refine own_ldcS X572 hx hZ hown (hw _ (List.mem_of_getElem? (i := 3) rfl)) hwS e572 HH573 hEL (List.mem_of_getElem? (i := 2) rfl) (vs := ([.int (104 : Int32)] : List Value)) (z := (1 : Int32)) (by decide +kernel) (by decide) (by decide) (hb hby at_65) 4 (by decide) (by decide) (by decide) (by decide) rfl ?_
          intro ls575 T575 h575 lt575 k575 X575 e575 E575 hZ hown HH575 A575 Ex575 Fc575 Fv575 V575 ne575
          have K576 := K574.ext E575
          refine own_ldcS X575 hx hZ hown (hw _ (List.mem_of_getElem? (i := 11) rfl)) hwS e575 HH575 hEL (List.mem_of_getElem? (i := 3) rfl) (vs := ([.int (99 : Int32)] : List Value)) (z := (1 : Int32)) (by decide +kernel) (by decide) (by decide) (hb hby at_67) 4 (by decide) (by decide) (by decide) (by decide) rfl ?_
          intro ls577 T577 h577 lt577 k577 X577 e577 E577 hZ hown HH577 A577 Ex577 Fc577 Fv577 V577 ne577
          have K578 := K576.ext E577
          refine own_lloadN X577 hx (hb hby at_69) rfl rfl ?_
          have f579 := (((O0.ext E572).ext E575).ext E577)
          refine own_static X577 hx hZ (y := (⟨"com/example/lockstitch/lockstitch/engine/tree/ResourcePath", "root", "()Lcom/example/lockstitch/lockstitch/engine/tree/ResourcePath;"⟩ : MethodName)) hown (hw _ (List.mem_of_getElem? (i := 12) rfl)) (hw _ (List.mem_of_getElem? (i := 13) rfl)) (hw _ (List.mem_of_getElem? (i := 14) rfl)) (hw _ (List.mem_of_getElem? (i := 15) rfl)) (by decide) e577 (by decide) (W := 6) (by decide) (by decide) (by decide) [] [(.long p1), (.ref ls577), (.ref ls575), (.ref b572), (.ref b572)] (by rw [hml]; rfl) (own_root l Z a0 hw rt h577 n0 f579 SR) own_pd36 rfl rfl rfl (hb hby at_70) rfl ?_
          intro v580 T580 L580 X580 hQ580
          obtain ⟨rfl, Nq580, hh580⟩ := hQ580
          have N580 := Fr.app N0 Nq580
          show own_Ends p e below _ (T580.setTop (mkF m 73 #[.val (.long p1), .second, .val (.int p2), .val (.int p3), .val (.long p4), .second, .val (.int c501), .val (.int (0 : Int32)), .val (.int (1 : Int32)), .val (.long (p1 - (1 : Int64))), .second, .unset] [(.ref rt), (.long p1), (.ref ls577), (.ref ls575), (.ref b572), (.ref b572)]))
          refine own_iload X580 hx (hb hby at_73) rfl rfl ?_
          refine own_static X580 hx hZ (y := (⟨"java/lang/String", "valueOf", "(C)Ljava/lang/String;"⟩ : MethodName)) hown (hw _ (List.mem_of_getElem? (i := 18) rfl)) (hw _ (List.mem_of_getElem? (i := 19) rfl)) (hw _ (List.mem_of_getElem? (i := 4) rfl)) (hw _ (List.mem_of_getElem? (i := 20) rfl)) (by decide) hh580 (by decide) (W := 7) (by decide) (by decide) (by decide) [(.int c501)] [(.ref rt), (.long p1), (.ref ls577), (.ref ls575), (.ref b572), (.ref b572)] (by rw [hml]; rfl) (own_valueOf l Z a0 hw c501 zc h577 n0 f579 SC hzc hc501) own_pd37 rfl rfl rfl (hb hby at_75) rfl ?_
          intro v581 T581 L581 X581 hQ581
          obtain ⟨a581, rfl, Nq581, Kq581, g_a581, sz_a581, Ss581⟩ := hQ581
          have sz_a581 := Nat.le_trans K578.1 sz_a581
          have N581 := Fr.app N580 Nq581
          have HH582 := HH577.keep Kq581 sf0
          have K583 := K578.trans Kq581 all0
          obtain ⟨t581, kb581, Es581, Vs581, Cs581, Ks581, CB581⟩ := Ss581
          show own_Ends p e below _ (T581.setTop (mkF m 78 #[.val (.long p1), .second, .val (.int p2), .val (.int p3), .val (.long p4), .second, .val (.int c501), .val (.int (0 : Int32)), .val (.int (1 : Int32)), .val (.long (p1 - (1 : Int64))), .second, .unset] [(.ref a581), (.ref rt), (.long p1), (.ref ls577), (.ref ls575), (.ref b572), (.ref b572)]))
          have f584 := (f579.keep Kq581 all0)
          refine own_virtualH X581 hx hZ (y := (⟨"com/example/lockstitch/lockstitch/engine/tree/ResourcePath", "child", "(Ljava/lang/String;)Ljava/util/Optional;"⟩ : MethodName)) (z := (⟨"com/example/lockstitch/lockstitch/engine/tree/ResourcePath", "child", "(Ljava/lang/String;)Ljava/util/Optional;"⟩ : MethodName)) hown (hw _ (List.mem_of_getElem? (i := 39) rfl)) (hw _ (List.mem_of_getElem? (i := 40) rfl)) (notFace_of_selects (args := #[]) (mvT hZ (hw _ (List.mem_of_getElem? (i := 42) rfl)))) (hw _ (List.mem_of_getElem? (i := 42) rfl)) (hw _ (List.mem_of_getElem? (i := 41) rfl)) (hw _ (List.mem_of_getElem? (i := 14) rfl)) (hw _ (List.mem_of_getElem? (i := 43) rfl)) (by decide) HH582 hEL rfl (by decide) (W := 6) (by decide) (by decide) (by decide) [(.ref a581)] [(.long p1), (.ref ls577), (.ref ls575), (.ref b572), (.ref b572)] (by rw [hml]; rfl) (XR.ext f584.2) (own_child l Z a0 hw rt a581 u8 em eo mr nl c1 ky kc kk (c501.toInt8.toInt32) zc T581.heap n0 hEL f584 SC hzc SI SU SE XE FE SX XX M XR FNR XN FEN VE OA FKR VK ⟨_, _, Es581, Vs581, Cs581, Ks581, CB581⟩) own_pd38 rfl rfl rfl (hb hby at_78) rfl ?_
          intro v585 T585 L585 X585 hQ585 hZ hown HH585 A585
          obtain ⟨op585, rfl, Nq585, Kq585, Eo585, D585⟩ := hQ585
          have N585 := Fr.app N581 Nq585
          have K586 := K583.trans Kq585 all0
          obtain ⟨-, x585, Ex585, Fo585⟩ := D585.resolve_left (fun q => own_okC hc501 hc25_503 hc30_526 hc37_549 q.1)
          show own_Ends p e below _ (T585.setTop (mkF m 81 #[.val (.long p1), .second, .val (.int p2), .val (.int p3), .val (.long p4), .second, .val (.int c501), .val (.int (0 : Int32)), .val (.int (1 : Int32)), .val (.long (p1 - (1 : Int64))), .second, .unset] [(.ref op585), (.long p1), (.ref ls577), (.ref ls575), (.ref b572), (.ref b572)]))
          refine own_iload X585 hx (hb hby at_81) rfl rfl ?_
          refine own_lload X585 hx (hb hby at_83) rfl rfl ?_
          have f587 := ((((A572.ext E575).ext E577).keep Kq581).keep Kq585)
          refine own_special X585 hx hZ (y := (⟨"com/example/lockstitch/lockstitch/engine/tree/SyncToken", "<init>", "(Ljava/lang/String;Ljava/lang/String;JLjava/util/Optional;ZJ)V"⟩ : MethodName)) rfl hown (hw _ (List.mem_of_getElem? (i := 313) rfl)) (hw _ (List.mem_of_getElem? (i := 314) rfl)) (hw _ (List.mem_of_getElem? (i := 2) rfl)) (hw _ (List.mem_of_getElem? (i := 315) rfl)) (by decide) rfl (by decide) (W := 1) (by decide) (by decide) (by decide) [(.ref ls575), (.ref ls577), (.long p1), (.ref op585), (.int (0 : Int32)), (.long p4)] [(.ref b572)] (by rw [hml]; rfl) (a := b572) (own_stiR0 l Z a0 hw b572 ls575 ls577 op585 x585 p1 p4 T585.heap n0 g_b572 f587 (fun L p => (((((D572 L p).ext E575).ext E577).keep Kq581 nin0).keep Kq585 nin0)) Eo585 Fo585 Ex585) own_pd39 rfl rfl rfl (hb hby at_85) rfl ?_
          intro v588 T588 L588 X588 hQ588
          obtain ⟨rfl, Nq588, Kq588, Et588, Rt588, It588, Bt588⟩ := hQ588
          have N588 := Fr.app N585 Nq588
          have HH589 := HH585.keep Kq588 (sfS (Safe.exa hZ.alike f587 (by decide) (by decide)) sf0)
          have K590 := K586.trans Kq588 (allS (Or.inr sz_b572) all0)
          show own_Ends p e below _ (T588.setTop (mkF m 88 #[.val (.long p1), .second, .val (.int p2), .val (.int p3), .val (.long p4), .second, .val (.int c501), .val (.int (0 : Int32)), .val (.int (1 : Int32)), .val (.long (p1 - (1 : Int64))), .second, .unset] [(.ref b572)]))
          refine own_astore X588 hx #[.val (.long p1), .second, .val (.int p2), .val (.int p3), .val (.long p4), .second, .val (.int c501), .val (.int (0 : Int32)), .val (.int (1 : Int32)), .val (.long (p1 - (1 : Int64))), .second, .val (.ref b572)] (hb hby at_88) rfl rfl rfl ?_
          refine own_aload X588 hx (hb hby at_90) rfl rfl rfl ?_
          refine own_virtual X588 hx hZ (y := (⟨"com/example/lockstitch/lockstitch/engine/tree/SyncToken", "wholeUpTo", "()J"⟩ : MethodName)) (z := (⟨"com/example/lockstitch/lockstitch/engine/tree/SyncToken", "wholeUpTo", "()J"⟩ : MethodName)) hown (hw _ (List.mem_of_getElem? (i := 349) rfl)) (hw _ (List.mem_of_getElem? (i := 340) rfl)) (notFace_of_selects (args := #[]) (mvT hZ (hw _ (List.mem_of_getElem? (i := 342) rfl)))) (hw _ (List.mem_of_getElem? (i := 342) rfl)) (hw _ (List.mem_of_getElem? (i := 341) rfl)) (hw _ (List.mem_of_getElem? (i := 2) rfl)) (hw _ (List.mem_of_getElem? (i := 343) rfl)) (by decide) rfl (by decide) (W := 0) (by decide) (by decide) (by decide) [] [] (by rw [hml]; rfl) Et588 (own_whoR l Z a0 hw b572 x585 p1 T588.heap n0 It588 Rt588) own_pd26 rfl rfl rfl (hb hby at_92) rfl ?_
          intro v591 T591 L591 X591 hQ591
          obtain ⟨rfl, Nq591, hh591⟩ := hQ591
          have N591 := Fr.app N588 Nq591
          show own_Ends p e below _ (T591.setTop (mkF m 95 #[.val (.long p1), .second, .val (.int p2), .val (.int p3), .val (.long p4), .second, .val (.int c501), .val (.int (0 : Int32)), .val (.int (1 : Int32)), .val (.long (p1 - (1 : Int64))), .second, .val (.ref b572)] [(.long (p1 - (1 : Int64)))]))
          refine own_lload X591 hx (hb hby at_95) rfl rfl ?_
          refine own_lcmp X591 hx (hb hby at_97) rfl ?_
          refine own_ifF X591 hx (hb hby at_98) rfl (teq ((lw_eq _ _).mpr rfl)).2 ?_
          refine own_aload X591 hx (hb hby at_101) rfl rfl rfl ?_
          refine own_virtual X591 hx hZ (y := (⟨"com/example/lockstitch/lockstitch/engine/tree/SyncToken", "begun", "()J"⟩ : MethodName)) (z := (⟨"com/example/lockstitch/lockstitch/engine/tree/SyncToken", "begun", "()J"⟩ : MethodName)) hown (hw _ (List.mem_of_getElem? (i := 350) rfl)) (hw _ (List.mem_of_getElem? (i := 351) rfl)) (notFace_of_selects (args := #[]) (mvT hZ (hw _ (List.mem_of_getElem? (i := 353) rfl)))) (hw _ (List.mem_of_getElem? (i := 353) rfl)) (hw _ (List.mem_of_getElem? (i := 352) rfl)) (hw _ (List.mem_of_getElem? (i := 2) rfl)) (hw _ (List.mem_of_getElem? (i := 354) rfl)) (by decide) hh591 (by decide) (W := 0) (by decide) (by decide) (by decide) [] [] (by rw [hml]; rfl) Et588 (own_beg l Z a0 hw b572 (own_minL p4 (p1 - (1 : Int64))) T588.heap n0 Bt588) own_pd26 rfl rfl rfl (hb hby at_103) rfl ?_
          intro v592 T592 L592 X592 hQ592
          obtain ⟨rfl, Nq592, hh592⟩ := hQ592
          have N592 := Fr.app N591 Nq592
          show own_Ends p e below _ (T592.setTop (mkF m 106 #[.val (.long p1), .second, .val (.int p2), .val (.int p3), .val (.long p4), .second, .val (.int c501), .val (.int (0 : Int32)), .val (.int (1 : Int32)), .val (.long (p1 - (1 : Int64))), .second, .val (.ref b572)] [(.long (own_minL p4 (p1 - (1 : Int64))))]))
          refine own_lload X592 hx (hb hby at_106) rfl rfl ?_
          refine own_lload X592 hx (hb hby at_108) rfl rfl ?_
          refine own_static X592 hx hZ (y := (⟨"java/lang/Math", "min", "(JJ)J"⟩ : MethodName)) hown (hw _ (List.mem_of_getElem? (i := 355) rfl)) (hw _ (List.mem_of_getElem? (i := 345) rfl)) (hw _ (List.mem_of_getElem? (i := 121) rfl)) (hw _ (List.mem_of_getElem? (i := 346) rfl)) (by decide) hh592 (by decide) (W := 2) (by decide) (by decide) (by decide) [(.long p4), (.long (p1 - (1 : Int64)))] [(.long (own_minL p4 (p1 - (1 : Int64))))] (by rw [hml]; rfl) (own_mnL l Z a0 hw p4 (p1 - (1 : Int64)) T588.heap n0) own_pd27 rfl rfl rfl (hb hby at_110) rfl ?_
          intro v593 T593 L593 X593 hQ593
          obtain ⟨rfl, Nq593, hh593⟩ := hQ593
          have N593 := Fr.app N592 Nq593
          show own_Ends p e below _ (T593.setTop (mkF m 113 #[.val (.long p1), .second, .val (.int p2), .val (.int p3), .val (.long p4), .second, .val (.int c501), .val (.int (0 : Int32)), .val (.int (1 : Int32)), .val (.long (p1 - (1 : Int64))), .second, .val (.ref b572)] [(.long (own_minL p4 (p1 - (1 : Int64)))), (.long (own_minL p4 (p1 - (1 : Int64))))]))
          refine own_lcmp X593 hx (hb hby at_113) rfl ?_
          refine own_ifF X593 hx (hb hby at_114) rfl (teq ((lw_eq _ _).mpr rfl)).2 ?_
          refine own_iconst X593 hx (1 : Int32) (hb hby at_117) (by decide) rfl ?_
          refine own_goto X593 hx (hb hby at_118) (by decide) rfl ?_
          exact own_retNH X593 hx hZ hh593 HH589 hEL hlocks hret (by simp) (hb hby at_122) (by decide) (by decide) (by decide) ⟨rfl, N593⟩
  · refine own_iconst X0 hx (1 : Int32) (hb hby at_14) (by decide) rfl ?_
    refine own_goto X0 hx (hb hby at_15) (by decide) rfl ?_
    refine own_istore X0 hx #[.val (.long p1), .second, .val (.int p2), .val (.int p3), .val (.long p4), .second, .val (.int c501), .val (.int (1 : Int32)), .unset, .unset, .unset, .unset] (hb hby at_19) rfl rfl ?_
    refine own_iload X0 hx (hb hby at_21) rfl rfl ?_
    refine own_bipush X0 hx (47 : Int32) (hb hby at_23) (by decide) rfl ?_
    refine own_icmp_eq X0 hx (hb hby at_25) (by decide) rfl rfl (fun hc25_594 => ?_) (fun hc25_594 => ?_)
    · refine own_iconst X0 hx (0 : Int32) (hb hby at_44) (by decide) rfl ?_
      refine own_istore X0 hx #[.val (.long p1), .second, .val (.int p2), .val (.int p3), .val (.long p4), .second, .val (.int c501), .val (.int (1 : Int32)), .val (.int (0 : Int32)), .unset, .unset, .unset] (hb hby at_45) rfl rfl ?_
      refine own_iload X0 hx (hb hby at_47) rfl rfl ?_
      refine own_ifT X0 hx (hb hby at_49) (by decide) rfl (by decide) ?_
      refine own_lloadN X0 hx (hb hby at_58) rfl rfl ?_
      refine own_lstore X0 hx #[.val (.long p1), .second, .val (.int p2), .val (.int p3), .val (.long p4), .second, .val (.int c501), .val (.int (1 : Int32)), .val (.int (0 : Int32)), .val (.long p1), .second, .unset] (hb hby at_59) rfl rfl ?_
      refine own_new X0 hx hZ hown (hw _ (List.mem_of_getElem? (i := 0) rfl)) (hw _ (List.mem_of_getElem? (i := 1) rfl)) (hw _ (List.mem_of_getElem? (i := 2) rfl)) e0 (hb hby at_61) (by decide) (by decide) rfl ?_
      intro T595 h595 b595 X595 e595 g595 E595 A595 D595
      have g_b595 : n0 ≤ b595 := Nat.le_trans (own_oz O0) (Nat.le_of_eq g595.symm)
      have sz_b595 : h0.size ≤ b595 := Nat.le_trans K0.1 (Nat.le_of_eq g595.symm)
      have HH596 := HH0.ext E595
      have K597 := K0.ext E595
      have Fb595_history : Fld Z h595 b595 "com/example/lockstitch/lockstitch/engine/tree/SyncToken" "history" "Ljava/lang/String;" .null := D595 (Or.inr (hw _ (List.mem_of_getElem? (i := 318) rfl))) (ty := (.object "java/lang/String")) (by decide)
      have Fb595_collection : Fld Z h595 b595 "com/example/lockstitch/lockstitch/engine/tree/SyncToken" "collection" "Ljava/lang/String;" .null := D595 (Or.inr (hw _ (List.mem_of_getElem? (i := 320) rfl))) (ty := (.object "java/lang/String")) (by decide)
      have Fb595_revision : Fld Z h595 b595 "com/example/lockstitch/lockstitch/engine/tree/SyncToken" "revision" "J" (.long (0 : Int64)) := D595 (Or.inr (hw _ (List.mem_of_getElem? (i := 322) rfl))) (ty := .long) (by decide)
      have Fb595_inside : Fld Z h595 b595 "com/example/lockstitch/lockstitch/engine/tree/SyncToken" "inside" "Lcom/example/lockstitch/lockstitch/engine/tree/ResourcePath;" .null := D595 (Or.inr (hw _ (List.mem_of_getElem? (i := 331) rfl))) (ty := (.object "com/example/lockstitch/lockstitch/engine/tree/ResourcePath")) (by decide)
      have Fb595_asFile : Fld Z h595 b595 "com/example/lockstitch/lockstitch/engine/tree/SyncToken" "asFile" "Z" (.int (0 : Int32)) := D595 (Or.inr (hw _ (List.mem_of_getElem? (i := 338) rfl))) (ty := .boolean) (by decide)
      have Fb595_begun : Fld Z h595 b595 "com/example/lockstitch/lockstitch/engine/tree/SyncToken" "begun" "J" (.long (0 : Int64)) := D595 (Or.inr (hw _ (List.mem_of_getElem? (i := 348) rfl))) (ty := .long) (by decide)
      refine own_dup X595 hx (hb hby at_64) rfl rfl ?_
      refine own_ldcS X595 hx hZ hown (hw _ (List.mem_of_getElem? (i := 3) rfl)) hwS e595 HH596 hEL (List.mem_of_getElem? (i := 2) rfl) (vs := ([.int (104 : Int32)] : List Value)) (z := (1 : Int32)) (by decide +kernel) (by decide) (by decide) (hb hby at_65) 4 (by decide) (by decide) (by decide) (by decide) rfl ?_
      intro ls598 T598 h598 lt598 k598 X598 e598 E598 hZ hown HH598 A598 Ex598 Fc598 Fv598 V598 ne598
      have K599 := K597.ext E598
      refine own_ldcS X598 hx hZ hown (hw _ (List.mem_of_getElem? (i := 11) rfl)) hwS e598 HH598 hEL (List.mem_of_getElem? (i := 3) rfl) (vs := ([.int (99 : Int32)] : List Value)) (z := (1 : Int32)) (by decide +kernel) (by decide) (by decide) (hb hby at_67) 4 (by decide) (by decide) (by decide) (by decide) rfl ?_
      intro ls600 T600 h600 lt600 k600 X600 e600 E600 hZ hown HH600 A600 Ex600 Fc600 Fv600 V600 ne600
      have K601 := K599.ext E600
      refine own_lloadN X600 hx (hb hby at_69) rfl rfl ?_
      have f602 := (((O0.ext E595).ext E598).ext E600)
      refine own_static X600 hx hZ (y := (⟨"com/example/lockstitch/lockstitch/engine/tree/ResourcePath", "root", "()Lcom/example/lockstitch/lockstitch/engine/tree/ResourcePath;"⟩ : MethodName)) hown (hw _ (List.mem_of_getElem? (i := 12) rfl)) (hw _ (List.mem_of_getElem? (i := 13) rfl)) (hw _ (List.mem_of_getElem? (i := 14) rfl)) (hw _ (List.mem_of_getElem? (i := 15) rfl)) (by decide) e600 (by decide) (W := 6) (by decide) (by decide) (by decide) [] [(.long p1), (.ref ls600), (.ref ls598), (.ref b595), (.ref b595)] (by rw [hml]; rfl) (own_root l Z a0 hw rt h600 n0 f602 SR) own_pd36 rfl rfl rfl (hb hby at_70) rfl ?_
      intro v603 T603 L603 X603 hQ603
      obtain ⟨rfl, Nq603, hh603⟩ := hQ603
      have N603 := Fr.app N0 Nq603
      show own_Ends p e below _ (T603.setTop (mkF m 73 #[.val (.long p1), .second, .val (.int p2), .val (.int p3), .val (.long p4), .second, .val (.int c501), .val (.int (1 : Int32)), .val (.int (0 : Int32)), .val (.long p1), .second, .unset] [(.ref rt), (.long p1), (.ref ls600), (.ref ls598), (.ref b595), (.ref b595)]))
      refine own_iload X603 hx (hb hby at_73) rfl rfl ?_
      refine own_static X603 hx hZ (y := (⟨"java/lang/String", "valueOf", "(C)Ljava/lang/String;"⟩ : MethodName)) hown (hw _ (List.mem_of_getElem? (i := 18) rfl)) (hw _ (List.mem_of_getElem? (i := 19) rfl)) (hw _ (List.mem_of_getElem? (i := 4) rfl)) (hw _ (List.mem_of_getElem? (i := 20) rfl)) (by decide) hh603 (by decide) (W := 7) (by decide) (by decide) (by decide) [(.int c501)] [(.ref rt), (.long p1), (.ref ls600), (.ref ls598), (.ref b595), (.ref b595)] (by rw [hml]; rfl) (own_valueOf l Z a0 hw c501 zc h600 n0 f602 SC hzc hc501) own_pd37 rfl rfl rfl (hb hby at_75) rfl ?_
      intro v604 T604 L604 X604 hQ604
      obtain ⟨a604, rfl, Nq604, Kq604, g_a604, sz_a604, Ss604⟩ := hQ604
      have sz_a604 := Nat.le_trans K601.1 sz_a604
      have N604 := Fr.app N603 Nq604
      have HH605 := HH600.keep Kq604 sf0
      have K606 := K601.trans Kq604 all0
      obtain ⟨t604, kb604, Es604, Vs604, Cs604, Ks604, CB604⟩ := Ss604
      show own_Ends p e below _ (T604.setTop (mkF m 78 #[.val (.long p1), .second, .val (.int p2), .val (.int p3), .val (.long p4), .second, .val (.int c501), .val (.int (1 : Int32)), .val (.int (0 : Int32)), .val (.long p1), .second, .unset] [(.ref a604), (.ref rt), (.long p1), (.ref ls600), (.ref ls598), (.ref b595), (.ref b595)]))
      have f607 := (f602.keep Kq604 all0)
      refine own_virtualH X604 hx hZ (y := (⟨"com/example/lockstitch/lockstitch/engine/tree/ResourcePath", "child", "(Ljava/lang/String;)Ljava/util/Optional;"⟩ : MethodName)) (z := (⟨"com/example/lockstitch/lockstitch/engine/tree/ResourcePath", "child", "(Ljava/lang/String;)Ljava/util/Optional;"⟩ : MethodName)) hown (hw _ (List.mem_of_getElem? (i := 39) rfl)) (hw _ (List.mem_of_getElem? (i := 40) rfl)) (notFace_of_selects (args := #[]) (mvT hZ (hw _ (List.mem_of_getElem? (i := 42) rfl)))) (hw _ (List.mem_of_getElem? (i := 42) rfl)) (hw _ (List.mem_of_getElem? (i := 41) rfl)) (hw _ (List.mem_of_getElem? (i := 14) rfl)) (hw _ (List.mem_of_getElem? (i := 43) rfl)) (by decide) HH605 hEL rfl (by decide) (W := 6) (by decide) (by decide) (by decide) [(.ref a604)] [(.long p1), (.ref ls600), (.ref ls598), (.ref b595), (.ref b595)] (by rw [hml]; rfl) (XR.ext f607.2) (own_child l Z a0 hw rt a604 u8 em eo mr nl c1 ky kc kk (c501.toInt8.toInt32) zc T604.heap n0 hEL f607 SC hzc SI SU SE XE FE SX XX M XR FNR XN FEN VE OA FKR VK ⟨_, _, Es604, Vs604, Cs604, Ks604, CB604⟩) own_pd38 rfl rfl rfl (hb hby at_78) rfl ?_
      intro v608 T608 L608 X608 hQ608 hZ hown HH608 A608
      obtain ⟨op608, rfl, Nq608, Kq608, Eo608, D608⟩ := hQ608
      have N608 := Fr.app N604 Nq608
      have K609 := K606.trans Kq608 all0
      obtain ⟨-, Fo608⟩ := D608.resolve_right (fun q => q.1 (by rw [hc25_594]; decide))
      show own_Ends p e below _ (T608.setTop (mkF m 81 #[.val (.long p1), .second, .val (.int p2), .val (.int p3), .val (.long p4), .second, .val (.int c501), .val (.int (1 : Int32)), .val (.int (0 : Int32)), .val (.long p1), .second, .unset] [(.ref op608), (.long p1), (.ref ls600), (.ref ls598), (.ref b595), (.ref b595)]))
      refine own_iload X608 hx (hb hby at_81) rfl rfl ?_
      refine own_lload X608 hx (hb hby at_83) rfl rfl ?_
      have f610 := ((((A595.ext E598).ext E600).keep Kq604).keep Kq608)
      refine own_special X608 hx hZ (y := (⟨"com/example/lockstitch/lockstitch/engine/tree/SyncToken", "<init>", "(Ljava/lang/String;Ljava/lang/String;JLjava/util/Optional;ZJ)V"⟩ : MethodName)) rfl hown (hw _ (List.mem_of_getElem? (i := 313) rfl)) (hw _ (List.mem_of_getElem? (i := 314) rfl)) (hw _ (List.mem_of_getElem? (i := 2) rfl)) (hw _ (List.mem_of_getElem? (i := 315) rfl)) (by decide) rfl (by decide) (W := 1) (by decide) (by decide) (by decide) [(.ref ls598), (.ref ls600), (.long p1), (.ref op608), (.int (1 : Int32)), (.long p4)] [(.ref b595)] (by rw [hml]; rfl) (a := b595) (own_stiN1 l Z a0 hw b595 ls598 ls600 op608 p1 p4 T608.heap n0 g_b595 f610 (fun L p => (((((D595 L p).ext E598).ext E600).keep Kq604 nin0).keep Kq608 nin0)) Eo608 Fo608) own_pd39 rfl rfl rfl (hb hby at_85) rfl ?_
      intro v611 T611 L611 X611 hQ611
      obtain ⟨rfl, Nq611, Kq611, Et611, Rt611, It611, Bt611⟩ := hQ611
      have N611 := Fr.app N608 Nq611
      have HH612 := HH608.keep Kq611 (sfS (Safe.exa hZ.alike f610 (by decide) (by decide)) sf0)
      have K613 := K609.trans Kq611 (allS (Or.inr sz_b595) all0)
      show own_Ends p e below _ (T611.setTop (mkF m 88 #[.val (.long p1), .second, .val (.int p2), .val (.int p3), .val (.long p4), .second, .val (.int c501), .val (.int (1 : Int32)), .val (.int (0 : Int32)), .val (.long p1), .second, .unset] [(.ref b595)]))
      refine own_astore X611 hx #[.val (.long p1), .second, .val (.int p2), .val (.int p3), .val (.long p4), .second, .val (.int c501), .val (.int (1 : Int32)), .val (.int (0 : Int32)), .val (.long p1), .second, .val (.ref b595)] (hb hby at_88) rfl rfl rfl ?_
      refine own_aload X611 hx (hb hby at_90) rfl rfl rfl ?_
      refine own_virtual X611 hx hZ (y := (⟨"com/example/lockstitch/lockstitch/engine/tree/SyncToken", "wholeUpTo", "()J"⟩ : MethodName)) (z := (⟨"com/example/lockstitch/lockstitch/engine/tree/SyncToken", "wholeUpTo", "()J"⟩ : MethodName)) hown (hw _ (List.mem_of_getElem? (i := 349) rfl)) (hw _ (List.mem_of_getElem? (i := 340) rfl)) (notFace_of_selects (args := #[]) (mvT hZ (hw _ (List.mem_of_getElem? (i := 342) rfl)))) (hw _ (List.mem_of_getElem? (i := 342) rfl)) (hw _ (List.mem_of_getElem? (i := 341) rfl)) (hw _ (List.mem_of_getElem? (i := 2) rfl)) (hw _ (List.mem_of_getElem? (i := 343) rfl)) (by decide) rfl (by decide) (W := 0) (by decide) (by decide) (by decide) [] [] (by rw [hml]; rfl) Et611 (own_whoN l Z a0 hw b595 p1 T611.heap n0 It611 Rt611) own_pd26 rfl rfl rfl (hb hby at_92) rfl ?_
      intro v614 T614 L614 X614 hQ614
      obtain ⟨rfl, Nq614, hh614⟩ := hQ614
      have N614 := Fr.app N611 Nq614
      show own_Ends p e below _ (T614.setTop (mkF m 95 #[.val (.long p1), .second, .val (.int p2), .val (.int p3), .val (.long p4), .second, .val (.int c501), .val (.int (1 : Int32)), .val (.int (0 : Int32)), .val (.long p1), .second, .val (.ref b595)] [(.long p1)]))
      refine own_lload X614 hx (hb hby at_95) rfl rfl ?_
      refine own_lcmp X614 hx (hb hby at_97) rfl ?_
      refine own_ifF X614 hx (hb hby at_98) rfl (teq ((lw_eq _ _).mpr rfl)).2 ?_
      refine own_aload X614 hx (hb hby at_101) rfl rfl rfl ?_
      refine own_virtual X614 hx hZ (y := (⟨"com/example/lockstitch/lockstitch/engine/tree/SyncToken", "begun", "()J"⟩ : MethodName)) (z := (⟨"com/example/lockstitch/lockstitch/engine/tree/SyncToken", "begun", "()J"⟩ : MethodName)) hown (hw _ (List.mem_of_getElem? (i := 350) rfl)) (hw _ (List.mem_of_getElem? (i := 351) rfl)) (notFace_of_selects (args := #[]) (mvT hZ (hw _ (List.mem_of_getElem? (i := 353) rfl)))) (hw _ (List.mem_of_getElem? (i := 353) rfl)) (hw _ (List.mem_of_getElem? (i := 352) rfl)) (hw _ (List.mem_of_getElem? (i := 2) rfl)) (hw _ (List.mem_of_getElem? (i := 354) rfl)) (by decide) hh614 (by decide) (W := 0) (by decide) (by decide) (by decide) [] [] (by rw [hml]; rfl) Et611 (own_beg l Z a0 hw b595 (own_minL p4 p1) T611.heap n0 Bt611) own_pd26 rfl rfl rfl (hb hby at_103) rfl ?_
      intro v615 T615 L615 X615 hQ615
      obtain ⟨rfl, Nq615, hh615⟩ := hQ615
      have N615 := Fr.app N614 Nq615
      show own_Ends p e below _ (T615.setTop (mkF m 106 #[.val (.long p1), .second, .val (.int p2), .val (.int p3), .val (.long p4), .second, .val (.int c501), .val (.int (1 : Int32)), .val (.int (0 : Int32)), .val (.long p1), .second, .val (.ref b595)] [(.long (own_minL p4 p1))]))
      refine own_lload X615 hx (hb hby at_106) rfl rfl ?_
      refine own_lload X615 hx (hb hby at_108) rfl rfl ?_
      refine own_static X615 hx hZ (y := (⟨"java/lang/Math", "min", "(JJ)J"⟩ : MethodName)) hown (hw _ (List.mem_of_getElem? (i := 355) rfl)) (hw _ (List.mem_of_getElem? (i := 345) rfl)) (hw _ (List.mem_of_getElem? (i := 121) rfl)) (hw _ (List.mem_of_getElem? (i := 346) rfl)) (by decide) hh615 (by decide) (W := 2) (by decide) (by decide) (by decide) [(.long p4), (.long p1)] [(.long (own_minL p4 p1))] (by rw [hml]; rfl) (own_mnL l Z a0 hw p4 p1 T611.heap n0) own_pd27 rfl rfl rfl (hb hby at_110) rfl ?_
      intro v616 T616 L616 X616 hQ616
      obtain ⟨rfl, Nq616, hh616⟩ := hQ616
      have N616 := Fr.app N615 Nq616
      show own_Ends p e below _ (T616.setTop (mkF m 113 #[.val (.long p1), .second, .val (.int p2), .val (.int p3), .val (.long p4), .second, .val (.int c501), .val (.int (1 : Int32)), .val (.int (0 : Int32)), .val (.long p1), .second, .val (.ref b595)] [(.long (own_minL p4 p1)), (.long (own_minL p4 p1))]))
      refine own_lcmp X616 hx (hb hby at_113) rfl ?_
      refine own_ifF X616 hx (hb hby at_114) rfl (teq ((lw_eq _ _).mpr rfl)).2 ?_
      refine own_iconst X616 hx (1 : Int32) (hb hby at_117) (by decide) rfl ?_
      refine own_goto X616 hx (hb hby at_118) (by decide) rfl ?_
      exact own_retNH X616 hx hZ hh616 HH612 hEL hlocks hret (by simp) (hb hby at_122) (by decide) (by decide) (by decide) ⟨rfl, N616⟩
    · refine own_iload X0 hx (hb hby at_28) rfl rfl ?_
      refine own_if_eq X0 hx (hb hby at_30) (by decide) rfl rfl (fun hc30_617 => ?_) (fun hc30_617 => ?_)
      · refine own_iconst X0 hx (0 : Int32) (hb hby at_44) (by decide) rfl ?_
        refine own_istore X0 hx #[.val (.long p1), .second, .val (.int p2), .val (.int p3), .val (.long p4), .second, .val (.int c501), .val (.int (1 : Int32)), .val (.int (0 : Int32)), .unset, .unset, .unset] (hb hby at_45) rfl rfl ?_
        refine own_iload X0 hx (hb hby at_47) rfl rfl ?_
        refine own_ifT X0 hx (hb hby at_49) (by decide) rfl (by decide) ?_
        refine own_lloadN X0 hx (hb hby at_58) rfl rfl ?_
        refine own_lstore X0 hx #[.val (.long p1), .second, .val (.int p2), .val (.int p3), .val (.long p4), .second, .val (.int c501), .val (.int (1 : Int32)), .val (.int (0 : Int32)), .val (.long p1), .second, .unset] (hb hby at_59) rfl rfl ?_
        refine own_new X0 hx hZ hown (hw _ (List.mem_of_getElem? (i := 0) rfl)) (hw _ (List.mem_of_getElem? (i := 1) rfl)) (hw _ (List.mem_of_getElem? (i := 2) rfl)) e0 (hb hby at_61) (by decide) (by decide) rfl ?_
        intro T618 h618 b618 X618 e618 g618 E618 A618 D618
        have g_b618 : n0 ≤ b618 := Nat.le_trans (own_oz O0) (Nat.le_of_eq g618.symm)
        have sz_b618 : h0.size ≤ b618 := Nat.le_trans K0.1 (Nat.le_of_eq g618.symm)
        have HH619 := HH0.ext E618
        have K620 := K0.ext E618
        have Fb618_history : Fld Z h618 b618 "com/example/lockstitch/lockstitch/engine/tree/SyncToken" "history" "Ljava/lang/String;" .null := D618 (Or.inr (hw _ (List.mem_of_getElem? (i := 318) rfl))) (ty := (.object "java/lang/String")) (by decide)
        have Fb618_collection : Fld Z h618 b618 "com/example/lockstitch/lockstitch/engine/tree/SyncToken" "collection" "Ljava/lang/String;" .null := D618 (Or.inr (hw _ (List.mem_of_getElem? (i := 320) rfl))) (ty := (.object "java/lang/String")) (by decide)
        have Fb618_revision : Fld Z h618 b618 "com/example/lockstitch/lockstitch/engine/tree/SyncToken" "revision" "J" (.long (0 : Int64)) := D618 (Or.inr (hw _ (List.mem_of_getElem? (i := 322) rfl))) (ty := .long) (by decide)
        have Fb618_inside : Fld Z h618 b618 "com/example/lockstitch/lockstitch/engine/tree/SyncToken" "inside" "Lcom/example/lockstitch/lockstitch/engine/tree/ResourcePath;" .null := D618 (Or.inr (hw _ (List.mem_of_getElem? (i := 331) rfl))) (ty := (.object "com/example/lockstitch/lockstitch/engine/tree/ResourcePath")) (by decide)
        have Fb618_asFile : Fld Z h618 b618 "com/example/lockstitch/lockstitch/engine/tree/SyncToken" "asFile" "Z" (.int (0 : Int32)) := D618 (Or.inr (hw _ (List.mem_of_getElem? (i := 338) rfl))) (ty := .boolean) (by decide)
        have Fb618_begun : Fld Z h618 b618 "com/example/lockstitch/lockstitch/engine/tree/SyncToken" "begun" "J" (.long (0 : Int64)) := D618 (Or.inr (hw _ (List.mem_of_getElem? (i := 348) rfl))) (ty := .long) (by decide)
        refine own_dup X618 hx (hb hby at_64) rfl rfl ?_
        refine own_ldcS X618 hx hZ hown (hw _ (List.mem_of_getElem? (i := 3) rfl)) hwS e618 HH619 hEL (List.mem_of_getElem? (i := 2) rfl) (vs := ([.int (104 : Int32)] : List Value)) (z := (1 : Int32)) (by decide +kernel) (by decide) (by decide) (hb hby at_65) 4 (by decide) (by decide) (by decide) (by decide) rfl ?_
        intro ls621 T621 h621 lt621 k621 X621 e621 E621 hZ hown HH621 A621 Ex621 Fc621 Fv621 V621 ne621
        have K622 := K620.ext E621
        refine own_ldcS X621 hx hZ hown (hw _ (List.mem_of_getElem? (i := 11) rfl)) hwS e621 HH621 hEL (List.mem_of_getElem? (i := 3) rfl) (vs := ([.int (99 : Int32)] : List Value)) (z := (1 : Int32)) (by decide +kernel) (by decide) (by decide) (hb hby at_67) 4 (by decide) (by decide) (by decide) (by decide) rfl ?_
        intro ls623 T623 h623 lt623 k623 X623 e623 E623 hZ hown HH623 A623 Ex623 Fc623 Fv623 V623 ne623
        have K624 := K622.ext E623
        refine own_lloadN X623 hx (hb hby at_69) rfl rfl ?_
        have f625 := (((O0.ext E618).ext E621).ext E623)
        refine own_static X623 hx hZ (y := (⟨"com/example/lockstitch/lockstitch/engine/tree/ResourcePath", "root", "()Lcom/example/lockstitch/lockstitch/engine/tree/ResourcePath;"⟩ : MethodName)) hown (hw _ (List.mem_of_getElem? (i := 12) rfl)) (hw _ (List.mem_of_getElem? (i := 13) rfl)) (hw _ (List.mem_of_getElem? (i := 14) rfl)) (hw _ (List.mem_of_getElem? (i := 15) rfl)) (by decide) e623 (by decide) (W := 6) (by decide) (by decide) (by decide) [] [(.long p1), (.ref ls623), (.ref ls621), (.ref b618), (.ref b618)] (by rw [hml]; rfl) (own_root l Z a0 hw rt h623 n0 f625 SR) own_pd36 rfl rfl rfl (hb hby at_70) rfl ?_
        intro v626 T626 L626 X626 hQ626
        obtain ⟨rfl, Nq626, hh626⟩ := hQ626
        have N626 := Fr.app N0 Nq626
        show own_Ends p e below _ (T626.setTop (mkF m 73 #[.val (.long p1), .second, .val (.int p2), .val (.int p3), .val (.long p4), .second, .val (.int c501), .val (.int (1 : Int32)), .val (.int (0 : Int32)), .val (.long p1), .second, .unset] [(.ref rt), (.long p1), (.ref ls623), (.ref ls621), (.ref b618), (.ref b618)]))
        refine own_iload X626 hx (hb hby at_73) rfl rfl ?_
        refine own_static X626 hx hZ (y := (⟨"java/lang/String", "valueOf", "(C)Ljava/lang/String;"⟩ : MethodName)) hown (hw _ (List.mem_of_getElem? (i := 18) rfl)) (hw _ (List.mem_of_getElem? (i := 19) rfl)) (hw _ (List.mem_of_getElem? (i := 4) rfl)) (hw _ (List.mem_of_getElem? (i := 20) rfl)) (by decide) hh626 (by decide) (W := 7) (by decide) (by decide) (by decide) [(.int c501)] [(.ref rt), (.long p1), (.ref ls623), (.ref ls621), (.ref b618), (.ref b618)] (by rw [hml]; rfl) (own_valueOf l Z a0 hw c501 zc h623 n0 f625 SC hzc hc501) own_pd37 rfl rfl rfl (hb hby at_75) rfl ?_
        intro v627 T627 L627 X627 hQ627
        obtain ⟨a627, rfl, Nq627, Kq627, g_a627, sz_a627, Ss627⟩ := hQ627
        have sz_a627 := Nat.le_trans K624.1 sz_a627
        have N627 := Fr.app N626 Nq627
        have HH628 := HH623.keep Kq627 sf0
        have K629 := K624.trans Kq627 all0
        obtain ⟨t627, kb627, Es627, Vs627, Cs627, Ks627, CB627⟩ := Ss627
        show own_Ends p e below _ (T627.setTop (mkF m 78 #[.val (.long p1), .second, .val (.int p2), .val (.int p3), .val (.long p4), .second, .val (.int c501), .val (.int (1 : Int32)), .val (.int (0 : Int32)), .val (.long p1), .second, .unset] [(.ref a627), (.ref rt), (.long p1), (.ref ls623), (.ref ls621), (.ref b618), (.ref b618)]))
        have f630 := (f625.keep Kq627 all0)
        refine own_virtualH X627 hx hZ (y := (⟨"com/example/lockstitch/lockstitch/engine/tree/ResourcePath", "child", "(Ljava/lang/String;)Ljava/util/Optional;"⟩ : MethodName)) (z := (⟨"com/example/lockstitch/lockstitch/engine/tree/ResourcePath", "child", "(Ljava/lang/String;)Ljava/util/Optional;"⟩ : MethodName)) hown (hw _ (List.mem_of_getElem? (i := 39) rfl)) (hw _ (List.mem_of_getElem? (i := 40) rfl)) (notFace_of_selects (args := #[]) (mvT hZ (hw _ (List.mem_of_getElem? (i := 42) rfl)))) (hw _ (List.mem_of_getElem? (i := 42) rfl)) (hw _ (List.mem_of_getElem? (i := 41) rfl)) (hw _ (List.mem_of_getElem? (i := 14) rfl)) (hw _ (List.mem_of_getElem? (i := 43) rfl)) (by decide) HH628 hEL rfl (by decide) (W := 6) (by decide) (by decide) (by decide) [(.ref a627)] [(.long p1), (.ref ls623), (.ref ls621), (.ref b618), (.ref b618)] (by rw [hml]; rfl) (XR.ext f630.2) (own_child l Z a0 hw rt a627 u8 em eo mr nl c1 ky kc kk (c501.toInt8.toInt32) zc T627.heap n0 hEL f630 SC hzc SI SU SE XE FE SX XX M XR FNR XN FEN VE OA FKR VK ⟨_, _, Es627, Vs627, Cs627, Ks627, CB627⟩) own_pd38 rfl rfl rfl (hb hby at_78) rfl ?_
        intro v631 T631 L631 X631 hQ631 hZ hown HH631 A631
        obtain ⟨op631, rfl, Nq631, Kq631, Eo631, D631⟩ := hQ631
        have N631 := Fr.app N627 Nq631
        have K632 := K629.trans Kq631 all0
        obtain ⟨-, Fo631⟩ := D631.resolve_right (fun q => q.1 (by rw [hc30_617]; decide))
        show own_Ends p e below _ (T631.setTop (mkF m 81 #[.val (.long p1), .second, .val (.int p2), .val (.int p3), .val (.long p4), .second, .val (.int c501), .val (.int (1 : Int32)), .val (.int (0 : Int32)), .val (.long p1), .second, .unset] [(.ref op631), (.long p1), (.ref ls623), (.ref ls621), (.ref b618), (.ref b618)]))
        refine own_iload X631 hx (hb hby at_81) rfl rfl ?_
        refine own_lload X631 hx (hb hby at_83) rfl rfl ?_
        have f633 := ((((A618.ext E621).ext E623).keep Kq627).keep Kq631)
        refine own_special X631 hx hZ (y := (⟨"com/example/lockstitch/lockstitch/engine/tree/SyncToken", "<init>", "(Ljava/lang/String;Ljava/lang/String;JLjava/util/Optional;ZJ)V"⟩ : MethodName)) rfl hown (hw _ (List.mem_of_getElem? (i := 313) rfl)) (hw _ (List.mem_of_getElem? (i := 314) rfl)) (hw _ (List.mem_of_getElem? (i := 2) rfl)) (hw _ (List.mem_of_getElem? (i := 315) rfl)) (by decide) rfl (by decide) (W := 1) (by decide) (by decide) (by decide) [(.ref ls621), (.ref ls623), (.long p1), (.ref op631), (.int (1 : Int32)), (.long p4)] [(.ref b618)] (by rw [hml]; rfl) (a := b618) (own_stiN1 l Z a0 hw b618 ls621 ls623 op631 p1 p4 T631.heap n0 g_b618 f633 (fun L p => (((((D618 L p).ext E621).ext E623).keep Kq627 nin0).keep Kq631 nin0)) Eo631 Fo631) own_pd39 rfl rfl rfl (hb hby at_85) rfl ?_
        intro v634 T634 L634 X634 hQ634
        obtain ⟨rfl, Nq634, Kq634, Et634, Rt634, It634, Bt634⟩ := hQ634
        have N634 := Fr.app N631 Nq634
        have HH635 := HH631.keep Kq634 (sfS (Safe.exa hZ.alike f633 (by decide) (by decide)) sf0)
        have K636 := K632.trans Kq634 (allS (Or.inr sz_b618) all0)
        show own_Ends p e below _ (T634.setTop (mkF m 88 #[.val (.long p1), .second, .val (.int p2), .val (.int p3), .val (.long p4), .second, .val (.int c501), .val (.int (1 : Int32)), .val (.int (0 : Int32)), .val (.long p1), .second, .unset] [(.ref b618)]))
        refine own_astore X634 hx #[.val (.long p1), .second, .val (.int p2), .val (.int p3), .val (.long p4), .second, .val (.int c501), .val (.int (1 : Int32)), .val (.int (0 : Int32)), .val (.long p1), .second, .val (.ref b618)] (hb hby at_88) rfl rfl rfl ?_
        refine own_aload X634 hx (hb hby at_90) rfl rfl rfl ?_
        refine own_virtual X634 hx hZ (y := (⟨"com/example/lockstitch/lockstitch/engine/tree/SyncToken", "wholeUpTo", "()J"⟩ : MethodName)) (z := (⟨"com/example/lockstitch/lockstitch/engine/tree/SyncToken", "wholeUpTo", "()J"⟩ : MethodName)) hown (hw _ (List.mem_of_getElem? (i := 349) rfl)) (hw _ (List.mem_of_getElem? (i := 340) rfl)) (notFace_of_selects (args := #[]) (mvT hZ (hw _ (List.mem_of_getElem? (i := 342) rfl)))) (hw _ (List.mem_of_getElem? (i := 342) rfl)) (hw _ (List.mem_of_getElem? (i := 341) rfl)) (hw _ (List.mem_of_getElem? (i := 2) rfl)) (hw _ (List.mem_of_getElem? (i := 343) rfl)) (by decide) rfl (by decide) (W := 0) (by decide) (by decide) (by decide) [] [] (by rw [hml]; rfl) Et634 (own_whoN l Z a0 hw b618 p1 T634.heap n0 It634 Rt634) own_pd26 rfl rfl rfl (hb hby at_92) rfl ?_
        intro v637 T637 L637 X637 hQ637
        obtain ⟨rfl, Nq637, hh637⟩ := hQ637
        have N637 := Fr.app N634 Nq637
        show own_Ends p e below _ (T637.setTop (mkF m 95 #[.val (.long p1), .second, .val (.int p2), .val (.int p3), .val (.long p4), .second, .val (.int c501), .val (.int (1 : Int32)), .val (.int (0 : Int32)), .val (.long p1), .second, .val (.ref b618)] [(.long p1)]))
        refine own_lload X637 hx (hb hby at_95) rfl rfl ?_
        refine own_lcmp X637 hx (hb hby at_97) rfl ?_
        refine own_ifF X637 hx (hb hby at_98) rfl (teq ((lw_eq _ _).mpr rfl)).2 ?_
        refine own_aload X637 hx (hb hby at_101) rfl rfl rfl ?_
        refine own_virtual X637 hx hZ (y := (⟨"com/example/lockstitch/lockstitch/engine/tree/SyncToken", "begun", "()J"⟩ : MethodName)) (z := (⟨"com/example/lockstitch/lockstitch/engine/tree/SyncToken", "begun", "()J"⟩ : MethodName)) hown (hw _ (List.mem_of_getElem? (i := 350) rfl)) (hw _ (List.mem_of_getElem? (i := 351) rfl)) (notFace_of_selects (args := #[]) (mvT hZ (hw _ (List.mem_of_getElem? (i := 353) rfl)))) (hw _ (List.mem_of_getElem? (i := 353) rfl)) (hw _ (List.mem_of_getElem? (i := 352) rfl)) (hw _ (List.mem_of_getElem? (i := 2) rfl)) (hw _ (List.mem_of_getElem? (i := 354) rfl)) (by decide) hh637 (by decide) (W := 0) (by decide) (by decide) (by decide) [] [] (by rw [hml]; rfl) Et634 (own_beg l Z a0 hw b618 (own_minL p4 p1) T634.heap n0 Bt634) own_pd26 rfl rfl rfl (hb hby at_103) rfl ?_
        intro v638 T638 L638 X638 hQ638
        obtain ⟨rfl, Nq638, hh638⟩ := hQ638
        have N638 := Fr.app N637 Nq638
        show own_Ends p e below _ (T638.setTop (mkF m 106 #[.val (.long p1), .second, .val (.int p2), .val (.int p3), .val (.long p4), .second, .val (.int c501), .val (.int (1 : Int32)), .val (.int (0 : Int32)), .val (.long p1), .second, .val (.ref b618)] [(.long (own_minL p4 p1))]))
        refine own_lload X638 hx (hb hby at_106) rfl rfl ?_
        refine own_lload X638 hx (hb hby at_108) rfl rfl ?_
        refine own_static X638 hx hZ (y := (⟨"java/lang/Math", "min", "(JJ)J"⟩ : MethodName)) hown (hw _ (List.mem_of_getElem? (i := 355) rfl)) (hw _ (List.mem_of_getElem? (i := 345) rfl)) (hw _ (List.mem_of_getElem? (i := 121) rfl)) (hw _ (List.mem_of_getElem? (i := 346) rfl)) (by decide) hh638 (by decide) (W := 2) (by decide) (by decide) (by decide) [(.long p4), (.long p1)] [(.long (own_minL p4 p1))] (by rw [hml]; rfl) (own_mnL l Z a0 hw p4 p1 T634.heap n0) own_pd27 rfl rfl rfl (hb hby at_110) rfl ?_
        intro v639 T639 L639 X639 hQ639
        obtain ⟨rfl, Nq639, hh639⟩ := hQ639
        have N639 := Fr.app N638 Nq639
        show own_Ends p e below _ (T639.setTop (mkF m 113 #[.val (.long p1), .second, .val (.int p2), .val (.int p3), .val (.long p4), .second, .val (.int c501), .val (.int (1 : Int32)), .val (.int (0 : Int32)), .val (.long p1), .second, .val (.ref b618)] [(.long (own_minL p4 p1)), (.long (own_minL p4 p1))]))
        refine own_lcmp X639 hx (hb hby at_113) rfl ?_
        refine own_ifF X639 hx (hb hby at_114) rfl (teq ((lw_eq _ _).mpr rfl)).2 ?_
        refine own_iconst X639 hx (1 : Int32) (hb hby at_117) (by decide) rfl ?_
        refine own_goto X639 hx (hb hby at_118) (by decide) rfl ?_
        exact own_retNH X639 hx hZ hh639 HH635 hEL hlocks hret (by simp) (hb hby at_122) (by decide) (by decide) (by decide) ⟨rfl, N639⟩
      · refine own_iload X0 hx (hb hby at_33) rfl rfl ?_
        refine own_bipush X0 hx (46 : Int32) (hb hby at_35) (by decide) rfl ?_
        refine own_icmp_eq X0 hx (hb hby at_37) (by decide) rfl rfl (fun hc37_640 => ?_) (fun hc37_640 => ?_)
        · refine own_iconst X0 hx (0 : Int32) (hb hby at_44) (by decide) rfl ?_
          refine own_istore X0 hx #[.val (.long p1), .second, .val (.int p2), .val (.int p3), .val (.long p4), .second, .val (.int c501), .val (.int (1 : Int32)), .val (.int (0 : Int32)), .unset, .unset, .unset] (hb hby at_45) rfl rfl ?_
          refine own_iload X0 hx (hb hby at_47) rfl rfl ?_
          refine own_ifT X0 hx (hb hby at_49) (by decide) rfl (by decide) ?_
          refine own_lloadN X0 hx (hb hby at_58) rfl rfl ?_
          refine own_lstore X0 hx #[.val (.long p1), .second, .val (.int p2), .val (.int p3), .val (.long p4), .second, .val (.int c501), .val (.int (1 : Int32)), .val (.int (0 : Int32)), .val (.long p1), .second, .unset] (hb hby at_59) rfl rfl ?_
          refine own_new X0 hx hZ hown (hw _ (List.mem_of_getElem? (i := 0) rfl)) (hw _ (List.mem_of_getElem? (i := 1) rfl)) (hw _ (List.mem_of_getElem? (i := 2) rfl)) e0 (hb hby at_61) (by decide) (by decide) rfl ?_
          intro T641 h641 b641 X641 e641 g641 E641 A641 D641
          have g_b641 : n0 ≤ b641 := Nat.le_trans (own_oz O0) (Nat.le_of_eq g641.symm)
          have sz_b641 : h0.size ≤ b641 := Nat.le_trans K0.1 (Nat.le_of_eq g641.symm)
          have HH642 := HH0.ext E641
          have K643 := K0.ext E641
          have Fb641_history : Fld Z h641 b641 "com/example/lockstitch/lockstitch/engine/tree/SyncToken" "history" "Ljava/lang/String;" .null := D641 (Or.inr (hw _ (List.mem_of_getElem? (i := 318) rfl))) (ty := (.object "java/lang/String")) (by decide)
          have Fb641_collection : Fld Z h641 b641 "com/example/lockstitch/lockstitch/engine/tree/SyncToken" "collection" "Ljava/lang/String;" .null := D641 (Or.inr (hw _ (List.mem_of_getElem? (i := 320) rfl))) (ty := (.object "java/lang/String")) (by decide)
          have Fb641_revision : Fld Z h641 b641 "com/example/lockstitch/lockstitch/engine/tree/SyncToken" "revision" "J" (.long (0 : Int64)) := D641 (Or.inr (hw _ (List.mem_of_getElem? (i := 322) rfl))) (ty := .long) (by decide)
          have Fb641_inside : Fld Z h641 b641 "com/example/lockstitch/lockstitch/engine/tree/SyncToken" "inside" "Lcom/example/lockstitch/lockstitch/engine/tree/ResourcePath;" .null := D641 (Or.inr (hw _ (List.mem_of_getElem? (i := 331) rfl))) (ty := (.object "com/example/lockstitch/lockstitch/engine/tree/ResourcePath")) (by decide)
          have Fb641_asFile : Fld Z h641 b641 "com/example/lockstitch/lockstitch/engine/tree/SyncToken" "asFile" "Z" (.int (0 : Int32)) := D641 (Or.inr (hw _ (List.mem_of_getElem? (i := 338) rfl))) (ty := .boolean) (by decide)
          have Fb641_begun : Fld Z h641 b641 "com/example/lockstitch/lockstitch/engine/tree/SyncToken" "begun" "J" (.long (0 : Int64)) := D641 (Or.inr (hw _ (List.mem_of_getElem? (i := 348) rfl))) (ty := .long) (by decide)
          refine own_dup X641 hx (hb hby at_64) rfl rfl ?_
          refine own_ldcS X641 hx hZ hown (hw _ (List.mem_of_getElem? (i := 3) rfl)) hwS e641 HH642 hEL (List.mem_of_getElem? (i := 2) rfl) (vs := ([.int (104 : Int32)] : List Value)) (z := (1 : Int32)) (by decide +kernel) (by decide) (by decide) (hb hby at_65) 4 (by decide) (by decide) (by decide) (by decide) rfl ?_
          intro ls644 T644 h644 lt644 k644 X644 e644 E644 hZ hown HH644 A644 Ex644 Fc644 Fv644 V644 ne644
          have K645 := K643.ext E644
          refine own_ldcS X644 hx hZ hown (hw _ (List.mem_of_getElem? (i := 11) rfl)) hwS e644 HH644 hEL (List.mem_of_getElem? (i := 3) rfl) (vs := ([.int (99 : Int32)] : List Value)) (z := (1 : Int32)) (by decide +kernel) (by decide) (by decide) (hb hby at_67) 4 (by decide) (by decide) (by decide) (by decide) rfl ?_
          intro ls646 T646 h646 lt646 k646 X646 e646 E646 hZ hown HH646 A646 Ex646 Fc646 Fv646 V646 ne646
          have K647 := K645.ext E646
          refine own_lloadN X646 hx (hb hby at_69) rfl rfl ?_
          have f648 := (((O0.ext E641).ext E644).ext E646)
          refine own_static X646 hx hZ (y := (⟨"com/example/lockstitch/lockstitch/engine/tree/ResourcePath", "root", "()Lcom/example/lockstitch/lockstitch/engine/tree/ResourcePath;"⟩ : MethodName)) hown (hw _ (List.mem_of_getElem? (i := 12) rfl)) (hw _ (List.mem_of_getElem? (i := 13) rfl)) (hw _ (List.mem_of_getElem? (i := 14) rfl)) (hw _ (List.mem_of_getElem? (i := 15) rfl)) (by decide) e646 (by decide) (W := 6) (by decide) (by decide) (by decide) [] [(.long p1), (.ref ls646), (.ref ls644), (.ref b641), (.ref b641)] (by rw [hml]; rfl) (own_root l Z a0 hw rt h646 n0 f648 SR) own_pd36 rfl rfl rfl (hb hby at_70) rfl ?_
          intro v649 T649 L649 X649 hQ649
          obtain ⟨rfl, Nq649, hh649⟩ := hQ649
          have N649 := Fr.app N0 Nq649
          show own_Ends p e below _ (T649.setTop (mkF m 73 #[.val (.long p1), .second, .val (.int p2), .val (.int p3), .val (.long p4), .second, .val (.int c501), .val (.int (1 : Int32)), .val (.int (0 : Int32)), .val (.long p1), .second, .unset] [(.ref rt), (.long p1), (.ref ls646), (.ref ls644), (.ref b641), (.ref b641)]))
          refine own_iload X649 hx (hb hby at_73) rfl rfl ?_
          refine own_static X649 hx hZ (y := (⟨"java/lang/String", "valueOf", "(C)Ljava/lang/String;"⟩ : MethodName)) hown (hw _ (List.mem_of_getElem? (i := 18) rfl)) (hw _ (List.mem_of_getElem? (i := 19) rfl)) (hw _ (List.mem_of_getElem? (i := 4) rfl)) (hw _ (List.mem_of_getElem? (i := 20) rfl)) (by decide) hh649 (by decide) (W := 7) (by decide) (by decide) (by decide) [(.int c501)] [(.ref rt), (.long p1), (.ref ls646), (.ref ls644), (.ref b641), (.ref b641)] (by rw [hml]; rfl) (own_valueOf l Z a0 hw c501 zc h646 n0 f648 SC hzc hc501) own_pd37 rfl rfl rfl (hb hby at_75) rfl ?_
          intro v650 T650 L650 X650 hQ650
          obtain ⟨a650, rfl, Nq650, Kq650, g_a650, sz_a650, Ss650⟩ := hQ650
          have sz_a650 := Nat.le_trans K647.1 sz_a650
          have N650 := Fr.app N649 Nq650
          have HH651 := HH646.keep Kq650 sf0
          have K652 := K647.trans Kq650 all0
          obtain ⟨t650, kb650, Es650, Vs650, Cs650, Ks650, CB650⟩ := Ss650
          show own_Ends p e below _ (T650.setTop (mkF m 78 #[.val (.long p1), .second, .val (.int p2), .val (.int p3), .val (.long p4), .second, .val (.int c501), .val (.int (1 : Int32)), .val (.int (0 : Int32)), .val (.long p1), .second, .unset] [(.ref a650), (.ref rt), (.long p1), (.ref ls646), (.ref ls644), (.ref b641), (.ref b641)]))
          have f653 := (f648.keep Kq650 all0)
          refine own_virtualH X650 hx hZ (y := (⟨"com/example/lockstitch/lockstitch/engine/tree/ResourcePath", "child", "(Ljava/lang/String;)Ljava/util/Optional;"⟩ : MethodName)) (z := (⟨"com/example/lockstitch/lockstitch/engine/tree/ResourcePath", "child", "(Ljava/lang/String;)Ljava/util/Optional;"⟩ : MethodName)) hown (hw _ (List.mem_of_getElem? (i := 39) rfl)) (hw _ (List.mem_of_getElem? (i := 40) rfl)) (notFace_of_selects (args := #[]) (mvT hZ (hw _ (List.mem_of_getElem? (i := 42) rfl)))) (hw _ (List.mem_of_getElem? (i := 42) rfl)) (hw _ (List.mem_of_getElem? (i := 41) rfl)) (hw _ (List.mem_of_getElem? (i := 14) rfl)) (hw _ (List.mem_of_getElem? (i := 43) rfl)) (by decide) HH651 hEL rfl (by decide) (W := 6) (by decide) (by decide) (by decide) [(.ref a650)] [(.long p1), (.ref ls646), (.ref ls644), (.ref b641), (.ref b641)] (by rw [hml]; rfl) (XR.ext f653.2) (own_child l Z a0 hw rt a650 u8 em eo mr nl c1 ky kc kk (c501.toInt8.toInt32) zc T650.heap n0 hEL f653 SC hzc SI SU SE XE FE SX XX M XR FNR XN FEN VE OA FKR VK ⟨_, _, Es650, Vs650, Cs650, Ks650, CB650⟩) own_pd38 rfl rfl rfl (hb hby at_78) rfl ?_
          intro v654 T654 L654 X654 hQ654 hZ hown HH654 A654
          obtain ⟨op654, rfl, Nq654, Kq654, Eo654, D654⟩ := hQ654
          have N654 := Fr.app N650 Nq654
          have K655 := K652.trans Kq654 all0
          obtain ⟨-, Fo654⟩ := D654.resolve_right (fun q => q.1 (by rw [hc37_640]; decide))
          show own_Ends p e below _ (T654.setTop (mkF m 81 #[.val (.long p1), .second, .val (.int p2), .val (.int p3), .val (.long p4), .second, .val (.int c501), .val (.int (1 : Int32)), .val (.int (0 : Int32)), .val (.long p1), .second, .unset] [(.ref op654), (.long p1), (.ref ls646), (.ref ls644), (.ref b641), (.ref b641)]))
          refine own_iload X654 hx (hb hby at_81) rfl rfl ?_
          refine own_lload X654 hx (hb hby at_83) rfl rfl ?_
          have f656 := ((((A641.ext E644).ext E646).keep Kq650).keep Kq654)
          refine own_special X654 hx hZ (y := (⟨"com/example/lockstitch/lockstitch/engine/tree/SyncToken", "<init>", "(Ljava/lang/String;Ljava/lang/String;JLjava/util/Optional;ZJ)V"⟩ : MethodName)) rfl hown (hw _ (List.mem_of_getElem? (i := 313) rfl)) (hw _ (List.mem_of_getElem? (i := 314) rfl)) (hw _ (List.mem_of_getElem? (i := 2) rfl)) (hw _ (List.mem_of_getElem? (i := 315) rfl)) (by decide) rfl (by decide) (W := 1) (by decide) (by decide) (by decide) [(.ref ls644), (.ref ls646), (.long p1), (.ref op654), (.int (1 : Int32)), (.long p4)] [(.ref b641)] (by rw [hml]; rfl) (a := b641) (own_stiN1 l Z a0 hw b641 ls644 ls646 op654 p1 p4 T654.heap n0 g_b641 f656 (fun L p => (((((D641 L p).ext E644).ext E646).keep Kq650 nin0).keep Kq654 nin0)) Eo654 Fo654) own_pd39 rfl rfl rfl (hb hby at_85) rfl ?_
          intro v657 T657 L657 X657 hQ657
          obtain ⟨rfl, Nq657, Kq657, Et657, Rt657, It657, Bt657⟩ := hQ657
          have N657 := Fr.app N654 Nq657
          have HH658 := HH654.keep Kq657 (sfS (Safe.exa hZ.alike f656 (by decide) (by decide)) sf0)
          have K659 := K655.trans Kq657 (allS (Or.inr sz_b641) all0)
          show own_Ends p e below _ (T657.setTop (mkF m 88 #[.val (.long p1), .second, .val (.int p2), .val (.int p3), .val (.long p4), .second, .val (.int c501), .val (.int (1 : Int32)), .val (.int (0 : Int32)), .val (.long p1), .second, .unset] [(.ref b641)]))
          refine own_astore X657 hx #[.val (.long p1), .second, .val (.int p2), .val (.int p3), .val (.long p4), .second, .val (.int c501), .val (.int (1 : Int32)), .val (.int (0 : Int32)), .val (.long p1), .second, .val (.ref b641)] (hb hby at_88) rfl rfl rfl ?_
          refine own_aload X657 hx (hb hby at_90) rfl rfl rfl ?_
          refine own_virtual X657 hx hZ (y := (⟨"com/example/lockstitch/lockstitch/engine/tree/SyncToken", "wholeUpTo", "()J"⟩ : MethodName)) (z := (⟨"com/example/lockstitch/lockstitch/engine/tree/SyncToken", "wholeUpTo", "()J"⟩ : MethodName)) hown (hw _ (List.mem_of_getElem? (i := 349) rfl)) (hw _ (List.mem_of_getElem? (i := 340) rfl)) (notFace_of_selects (args := #[]) (mvT hZ (hw _ (List.mem_of_getElem? (i := 342) rfl)))) (hw _ (List.mem_of_getElem? (i := 342) rfl)) (hw _ (List.mem_of_getElem? (i := 341) rfl)) (hw _ (List.mem_of_getElem? (i := 2) rfl)) (hw _ (List.mem_of_getElem? (i := 343) rfl)) (by decide) rfl (by decide) (W := 0) (by decide) (by decide) (by decide) [] [] (by rw [hml]; rfl) Et657 (own_whoN l Z a0 hw b641 p1 T657.heap n0 It657 Rt657) own_pd26 rfl rfl rfl (hb hby at_92) rfl ?_
          intro v660 T660 L660 X660 hQ660
          obtain ⟨rfl, Nq660, hh660⟩ := hQ660
          have N660 := Fr.app N657 Nq660
          show own_Ends p e below _ (T660.setTop (mkF m 95 #[.val (.long p1), .second, .val (.int p2), .val (.int p3), .val (.long p4), .second, .val (.int c501), .val (.int (1 : Int32)), .val (.int (0 : Int32)), .val (.long p1), .second, .val (.ref b641)] [(.long p1)]))
          refine own_lload X660 hx (hb hby at_95) rfl rfl ?_
          refine own_lcmp X660 hx (hb hby at_97) rfl ?_
          refine own_ifF X660 hx (hb hby at_98) rfl (teq ((lw_eq _ _).mpr rfl)).2 ?_
          refine own_aload X660 hx (hb hby at_101) rfl rfl rfl ?_
          refine own_virtual X660 hx hZ (y := (⟨"com/example/lockstitch/lockstitch/engine/tree/SyncToken", "begun", "()J"⟩ : MethodName)) (z := (⟨"com/example/lockstitch/lockstitch/engine/tree/SyncToken", "begun", "()J"⟩ : MethodName)) hown (hw _ (List.mem_of_getElem? (i := 350) rfl)) (hw _ (List.mem_of_getElem? (i := 351) rfl)) (notFace_of_selects (args := #[]) (mvT hZ (hw _ (List.mem_of_getElem? (i := 353) rfl)))) (hw _ (List.mem_of_getElem? (i := 353) rfl)) (hw _ (List.mem_of_getElem? (i := 352) rfl)) (hw _ (List.mem_of_getElem? (i := 2) rfl)) (hw _ (List.mem_of_getElem? (i := 354) rfl)) (by decide) hh660 (by decide) (W := 0) (by decide) (by decide) (by decide) [] [] (by rw [hml]; rfl) Et657 (own_beg l Z a0 hw b641 (own_minL p4 p1) T657.heap n0 Bt657) own_pd26 rfl rfl rfl (hb hby at_103) rfl ?_
          intro v661 T661 L661 X661 hQ661
          obtain ⟨rfl, Nq661, hh661⟩ := hQ661
          have N661 := Fr.app N660 Nq661
          show own_Ends p e below _ (T661.setTop (mkF m 106 #[.val (.long p1), .second, .val (.int p2), .val (.int p3), .val (.long p4), .second, .val (.int c501), .val (.int (1 : Int32)), .val (.int (0 : Int32)), .val (.long p1), .second, .val (.ref b641)] [(.long (own_minL p4 p1))]))
          refine own_lload X661 hx (hb hby at_106) rfl rfl ?_
          refine own_lload X661 hx (hb hby at_108) rfl rfl ?_
          refine own_static X661 hx hZ (y := (⟨"java/lang/Math", "min", "(JJ)J"⟩ : MethodName)) hown (hw _ (List.mem_of_getElem? (i := 355) rfl)) (hw _ (List.mem_of_getElem? (i := 345) rfl)) (hw _ (List.mem_of_getElem? (i := 121) rfl)) (hw _ (List.mem_of_getElem? (i := 346) rfl)) (by decide) hh661 (by decide) (W := 2) (by decide) (by decide) (by decide) [(.long p4), (.long p1)] [(.long (own_minL p4 p1))] (by rw [hml]; rfl) (own_mnL l Z a0 hw p4 p1 T657.heap n0) own_pd27 rfl rfl rfl (hb hby at_110) rfl ?_
          intro v662 T662 L662 X662 hQ662
          obtain ⟨rfl, Nq662, hh662⟩ := hQ662
          have N662 := Fr.app N661 Nq662
          show own_Ends p e below _ (T662.setTop (mkF m 113 #[.val (.long p1), .second, .val (.int p2), .val (.int p3), .val (.long p4), .second, .val (.int c501), .val (.int (1 : Int32)), .val (.int (0 : Int32)), .val (.long p1), .second, .val (.ref b641)] [(.long (own_minL p4 p1)), (.long (own_minL p4 p1))]))
          refine own_lcmp X662 hx (hb hby at_113) rfl ?_
          refine own_ifF X662 hx (hb hby at_114) rfl (teq ((lw_eq _ _).mpr rfl)).2 ?_
          refine own_iconst X662 hx (1 : Int32) (hb hby at_117) (by decide) rfl ?_
          refine own_goto X662 hx (hb hby at_118) (by decide) rfl ?_
          exact own_retNH X662 hx hZ hh662 HH658 hEL hlocks hret (by simp) (hb hby at_122) (by decide) (by decide) (by decide) ⟨rfl, N662⟩
        · refine own_iconst X0 hx (1 : Int32) (hb hby at_40) (by decide) rfl ?_
          refine own_goto X0 hx (hb hby at_41) (by decide) rfl ?_
          refine own_istore X0 hx #[.val (.long p1), .second, .val (.int p2), .val (.int p3), .val (.long p4), .second, .val (.int c501), .val (.int (1 : Int32)), .val (.int (1 : Int32)), .unset, .unset, .unset] (hb hby at_45) rfl rfl ?_
          refine own_iload X0 hx (hb hby at_47) rfl rfl ?_
          refine own_ifF X0 hx (hb hby at_49) rfl (by decide) ?_
          refine own_lloadN X0 hx (hb hby at_52) rfl rfl ?_
          refine own_lconst X0 hx (1 : Int64) (hb hby at_53) (by decide) rfl ?_
          refine own_lsub X0 hx (hb hby at_54) rfl ?_
          refine own_goto X0 hx (hb hby at_55) (by decide) rfl ?_
          refine own_lstore X0 hx #[.val (.long p1), .second, .val (.int p2), .val (.int p3), .val (.long p4), .second, .val (.int c501), .val (.int (1 : Int32)), .val (.int (1 : Int32)), .val (.long (p1 - (1 : Int64))), .second, .unset] (hb hby at_59) rfl rfl ?_
          refine own_new X0 hx hZ hown (hw _ (List.mem_of_getElem? (i := 0) rfl)) (hw _ (List.mem_of_getElem? (i := 1) rfl)) (hw _ (List.mem_of_getElem? (i := 2) rfl)) e0 (hb hby at_61) (by decide) (by decide) rfl ?_
          intro T663 h663 b663 X663 e663 g663 E663 A663 D663
          have g_b663 : n0 ≤ b663 := Nat.le_trans (own_oz O0) (Nat.le_of_eq g663.symm)
          have sz_b663 : h0.size ≤ b663 := Nat.le_trans K0.1 (Nat.le_of_eq g663.symm)
          have HH664 := HH0.ext E663
          have K665 := K0.ext E663
          have Fb663_history : Fld Z h663 b663 "com/example/lockstitch/lockstitch/engine/tree/SyncToken" "history" "Ljava/lang/String;" .null := D663 (Or.inr (hw _ (List.mem_of_getElem? (i := 318) rfl))) (ty := (.object "java/lang/String")) (by decide)
          have Fb663_collection : Fld Z h663 b663 "com/example/lockstitch/lockstitch/engine/tree/SyncToken" "collection" "Ljava/lang/String;" .null := D663 (Or.inr (hw _ (List.mem_of_getElem? (i := 320) rfl))) (ty := (.object "java/lang/String")) (by decide)
          have Fb663_revision : Fld Z h663 b663 "com/example/lockstitch/lockstitch/engine/tree/SyncToken" "revision" "J" (.long (0 : Int64)) := D663 (Or.inr (hw _ (List.mem_of_getElem? (i := 322) rfl))) (ty := .long) (by decide)
          have Fb663_inside : Fld Z h663 b663 "com/example/lockstitch/lockstitch/engine/tree/SyncToken" "inside" "Lcom/example/lockstitch/lockstitch/engine/tree/ResourcePath;" .null := D663 (Or.inr (hw _ (List.mem_of_getElem? (i := 331) rfl))) (ty := (.object "com/example/lockstitch/lockstitch/engine/tree/ResourcePath")) (by decide)
          have Fb663_asFile : Fld Z h663 b663 "com/example/lockstitch/lockstitch/engine/tree/SyncToken" "asFile" "Z" (.int (0 : Int32)) := D663 (Or.inr (hw _ (List.mem_of_getElem? (i := 338) rfl))) (ty := .boolean) (by decide)
          have Fb663_begun : Fld Z h663 b663 "com/example/lockstitch/lockstitch/engine/tree/SyncToken" "begun" "J" (.long (0 : Int64)) := D663 (Or.inr (hw _ (List.mem_of_getElem? (i := 348) rfl))) (ty := .long) (by decide)
          refine own_dup X663 hx (hb hby at_64) rfl rfl ?_
          refine own_ldcS X663 hx hZ hown (hw _ (List.mem_of_getElem? (i := 3) rfl)) hwS e663 HH664 hEL (List.mem_of_getElem? (i := 2) rfl) (vs := ([.int (104 : Int32)] : List Value)) (z := (1 : Int32)) (by decide +kernel) (by decide) (by decide) (hb hby at_65) 4 (by decide) (by decide) (by decide) (by decide) rfl ?_
          intro ls666 T666 h666 lt666 k666 X666 e666 E666 hZ hown HH666 A666 Ex666 Fc666 Fv666 V666 ne666
          have K667 := K665.ext E666
          refine own_ldcS X666 hx hZ hown (hw _ (List.mem_of_getElem? (i := 11) rfl)) hwS e666 HH666 hEL (List.mem_of_getElem? (i := 3) rfl) (vs := ([.int (99 : Int32)] : List Value)) (z := (1 : Int32)) (by decide +kernel) (by decide) (by decide) (hb hby at_67) 4 (by decide) (by decide) (by decide) (by decide) rfl ?_
          intro ls668 T668 h668 lt668 k668 X668 e668 E668 hZ hown HH668 A668 Ex668 Fc668 Fv668 V668 ne668
          have K669 := K667.ext E668
          refine own_lloadN X668 hx (hb hby at_69) rfl rfl ?_
          have f670 := (((O0.ext E663).ext E666).ext E668)
          refine own_static X668 hx hZ (y := (⟨"com/example/lockstitch/lockstitch/engine/tree/ResourcePath", "root", "()Lcom/example/lockstitch/lockstitch/engine/tree/ResourcePath;"⟩ : MethodName)) hown (hw _ (List.mem_of_getElem? (i := 12) rfl)) (hw _ (List.mem_of_getElem? (i := 13) rfl)) (hw _ (List.mem_of_getElem? (i := 14) rfl)) (hw _ (List.mem_of_getElem? (i := 15) rfl)) (by decide) e668 (by decide) (W := 6) (by decide) (by decide) (by decide) [] [(.long p1), (.ref ls668), (.ref ls666), (.ref b663), (.ref b663)] (by rw [hml]; rfl) (own_root l Z a0 hw rt h668 n0 f670 SR) own_pd36 rfl rfl rfl (hb hby at_70) rfl ?_
          intro v671 T671 L671 X671 hQ671
          obtain ⟨rfl, Nq671, hh671⟩ := hQ671
          have N671 := Fr.app N0 Nq671
          show own_Ends p e below _ (T671.setTop (mkF m 73 #[.val (.long p1), .second, .val (.int p2), .val (.int p3), .val (.long p4), .second, .val (.int c501), .val (.int (1 : Int32)), .val (.int (1 : Int32)), .val (.long (p1 - (1 : Int64))), .second, .unset] [(.ref rt), (.long p1), (.ref ls668), (.ref ls666), (.ref b663), (.ref b663)]))
          refine own_iload X671 hx (hb hby at_73) rfl rfl ?_
          refine own_static X671 hx hZ (y := (⟨"java/lang/String", "valueOf", "(C)Ljava/lang/String;"⟩ : MethodName)) hown (hw _ (List.mem_of_getElem? (i := 18) rfl)) (hw _ (List.mem_of_getElem? (i := 19) rfl)) (hw _ (List.mem_of_getElem? (i := 4) rfl)) (hw _ (List.mem_of_getElem? (i := 20) rfl)) (by decide) hh671 (by decide) (W := 7) (by decide) (by decide) (by decide) [(.int c501)] [(.ref rt), (.long p1), (.ref ls668), (.ref ls666), (.ref b663), (.ref b663)] (by rw [hml]; rfl) (own_valueOf l Z a0 hw c501 zc h668 n0 f670 SC hzc hc501) own_pd37 rfl rfl rfl (hb hby at_75) rfl ?_
          intro v672 T672 L672 X672 hQ672
          obtain ⟨a672, rfl, Nq672, Kq672, g_a672, sz_a672, Ss672⟩ := hQ672
          have sz_a672 := Nat.le_trans K669.1 sz_a672
          have N672 := Fr.app N671 Nq672
          have HH673 := HH668.keep Kq672 sf0
          have K674 := K669.trans Kq672 all0
          obtain ⟨t672, kb672, Es672, Vs672, Cs672, Ks672, CB672⟩ := Ss672
          show own_Ends p e below _ (T672.setTop (mkF m 78 #[.val (.long p1), .second, .val (.int p2), .val (.int p3), .val (.long p4), .second, .val (.int c501), .val (.int (1 : Int32)), .val (.int (1 : Int32)), .val (.long (p1 - (1 : Int64))), .second, .unset] [(.ref a672), (.ref rt), (.long p1), (.ref ls668), (.ref ls666), (.ref b663), (.ref b663)]))
          have f675 := (f670.keep Kq672 all0)
          refine own_virtualH X672 hx hZ (y := (⟨"com/example/lockstitch/lockstitch/engine/tree/ResourcePath", "child", "(Ljava/lang/String;)Ljava/util/Optional;"⟩ : MethodName)) (z := (⟨"com/example/lockstitch/lockstitch/engine/tree/ResourcePath", "child", "(Ljava/lang/String;)Ljava/util/Optional;"⟩ : MethodName)) hown (hw _ (List.mem_of_getElem? (i := 39) rfl)) (hw _ (List.mem_of_getElem? (i := 40) rfl)) (notFace_of_selects (args := #[]) (mvT hZ (hw _ (List.mem_of_getElem? (i := 42) rfl)))) (hw _ (List.mem_of_getElem? (i := 42) rfl)) (hw _ (List.mem_of_getElem? (i := 41) rfl)) (hw _ (List.mem_of_getElem? (i := 14) rfl)) (hw _ (List.mem_of_getElem? (i := 43) rfl)) (by decide) HH673 hEL rfl (by decide) (W := 6) (by decide) (by decide) (by decide) [(.ref a672)] [(.long p1), (.ref ls668), (.ref ls666), (.ref b663), (.ref b663)] (by rw [hml]; rfl) (XR.ext f675.2) (own_child l Z a0 hw rt a672 u8 em eo mr nl c1 ky kc kk (c501.toInt8.toInt32) zc T672.heap n0 hEL f675 SC hzc SI SU SE XE FE SX XX M XR FNR XN FEN VE OA FKR VK ⟨_, _, Es672, Vs672, Cs672, Ks672, CB672⟩) own_pd38 rfl rfl rfl (hb hby at_78) rfl ?_
          intro v676 T676 L676 X676 hQ676 hZ hown HH676 A676
          obtain ⟨op676, rfl, Nq676, Kq676, Eo676, D676⟩ := hQ676
          have N676 := Fr.app N672 Nq676
          have K677 := K674.trans Kq676 all0
          obtain ⟨-, x676, Ex676, Fo676⟩ := D676.resolve_left (fun q => own_okC hc501 hc25_594 hc30_617 hc37_640 q.1)
          show own_Ends p e below _ (T676.setTop (mkF m 81 #[.val (.long p1), .second, .val (.int p2), .val (.int p3), .val (.long p4), .second, .val (.int c501), .val (.int (1 : Int32)), .val (.int (1 : Int32)), .val (.long (p1 - (1 : Int64))), .second, .unset] [(.ref op676), (.long p1), (.ref ls668), (.ref ls666), (.ref b663), (.ref b663)]))
          refine own_iload X676 hx (hb hby at_81) rfl rfl ?_
          refine own_lload X676 hx (hb hby at_83) rfl rfl ?_
          have f678 := ((((A663.ext E666).ext E668).keep Kq672).keep Kq676)
          refine own_special X676 hx hZ (y := (⟨"com/example/lockstitch/lockstitch/engine/tree/SyncToken", "<init>", "(Ljava/lang/String;Ljava/lang/String;JLjava/util/Optional;ZJ)V"⟩ : MethodName)) rfl hown (hw _ (List.mem_of_getElem? (i := 313) rfl)) (hw _ (List.mem_of_getElem? (i := 314) rfl)) (hw _ (List.mem_of_getElem? (i := 2) rfl)) (hw _ (List.mem_of_getElem? (i := 315) rfl)) (by decide) rfl (by decide) (W := 1) (by decide) (by decide) (by decide) [(.ref ls666), (.ref ls668), (.long p1), (.ref op676), (.int (1 : Int32)), (.long p4)] [(.ref b663)] (by rw [hml]; rfl) (a := b663) (own_stiR1 l Z a0 hw b663 ls666 ls668 op676 x676 p1 p4 T676.heap n0 g_b663 f678 (fun L p => (((((D663 L p).ext E666).ext E668).keep Kq672 nin0).keep Kq676 nin0)) Eo676 Fo676 Ex676) own_pd39 rfl rfl rfl (hb hby at_85) rfl ?_
          intro v679 T679 L679 X679 hQ679
          obtain ⟨rfl, Nq679, Kq679, Et679, Rt679, It679, Bt679⟩ := hQ679
          have N679 := Fr.app N676 Nq679
          have HH680 := HH676.keep Kq679 (sfS (Safe.exa hZ.alike f678 (by decide) (by decide)) sf0)
          have K681 := K677.trans Kq679 (allS (Or.inr sz_b663) all0)
          show own_Ends p e below _ (T679.setTop (mkF m 88 #[.val (.long p1), .second, .val (.int p2), .val (.int p3), .val (.long p4), .second, .val (.int c501), .val (.int (1 : Int32)), .val (.int (1 : Int32)), .val (.long (p1 - (1 : Int64))), .second, .unset] [(.ref b663)]))
          refine own_astore X679 hx #[.val (.long p1), .second, .val (.int p2), .val (.int p3), .val (.long p4), .second, .val (.int c501), .val (.int (1 : Int32)), .val (.int (1 : Int32)), .val (.long (p1 - (1 : Int64))), .second, .val (.ref b663)] (hb hby at_88) rfl rfl rfl ?_
          refine own_aload X679 hx (hb hby at_90) rfl rfl rfl ?_
          refine own_virtual X679 hx hZ (y := (⟨"com/example/lockstitch/lockstitch/engine/tree/SyncToken", "wholeUpTo", "()J"⟩ : MethodName)) (z := (⟨"com/example/lockstitch/lockstitch/engine/tree/SyncToken", "wholeUpTo", "()J"⟩ : MethodName)) hown (hw _ (List.mem_of_getElem? (i := 349) rfl)) (hw _ (List.mem_of_getElem? (i := 340) rfl)) (notFace_of_selects (args := #[]) (mvT hZ (hw _ (List.mem_of_getElem? (i := 342) rfl)))) (hw _ (List.mem_of_getElem? (i := 342) rfl)) (hw _ (List.mem_of_getElem? (i := 341) rfl)) (hw _ (List.mem_of_getElem? (i := 2) rfl)) (hw _ (List.mem_of_getElem? (i := 343) rfl)) (by decide) rfl (by decide) (W := 0) (by decide) (by decide) (by decide) [] [] (by rw [hml]; rfl) Et679 (own_whoR l Z a0 hw b663 x676 p1 T679.heap n0 It679 Rt679) own_pd26 rfl rfl rfl (hb hby at_92) rfl ?_
          intro v682 T682 L682 X682 hQ682
          obtain ⟨rfl, Nq682, hh682⟩ := hQ682
          have N682 := Fr.app N679 Nq682
          show own_Ends p e below _ (T682.setTop (mkF m 95 #[.val (.long p1), .second, .val (.int p2), .val (.int p3), .val (.long p4), .second, .val (.int c501), .val (.int (1 : Int32)), .val (.int (1 : Int32)), .val (.long (p1 - (1 : Int64))), .second, .val (.ref b663)] [(.long (p1 - (1 : Int64)))]))
          refine own_lload X682 hx (hb hby at_95) rfl rfl ?_
          refine own_lcmp X682 hx (hb hby at_97) rfl ?_
          refine own_ifF X682 hx (hb hby at_98) rfl (teq ((lw_eq _ _).mpr rfl)).2 ?_
          refine own_aload X682 hx (hb hby at_101) rfl rfl rfl ?_
          refine own_virtual X682 hx hZ (y := (⟨"com/example/lockstitch/lockstitch/engine/tree/SyncToken", "begun", "()J"⟩ : MethodName)) (z := (⟨"com/example/lockstitch/lockstitch/engine/tree/SyncToken", "begun", "()J"⟩ : MethodName)) hown (hw _ (List.mem_of_getElem? (i := 350) rfl)) (hw _ (List.mem_of_getElem? (i := 351) rfl)) (notFace_of_selects (args := #[]) (mvT hZ (hw _ (List.mem_of_getElem? (i := 353) rfl)))) (hw _ (List.mem_of_getElem? (i := 353) rfl)) (hw _ (List.mem_of_getElem? (i := 352) rfl)) (hw _ (List.mem_of_getElem? (i := 2) rfl)) (hw _ (List.mem_of_getElem? (i := 354) rfl)) (by decide) hh682 (by decide) (W := 0) (by decide) (by decide) (by decide) [] [] (by rw [hml]; rfl) Et679 (own_beg l Z a0 hw b663 (own_minL p4 (p1 - (1 : Int64))) T679.heap n0 Bt679) own_pd26 rfl rfl rfl (hb hby at_103) rfl ?_
          intro v683 T683 L683 X683 hQ683
          obtain ⟨rfl, Nq683, hh683⟩ := hQ683
          have N683 := Fr.app N682 Nq683
          show own_Ends p e below _ (T683.setTop (mkF m 106 #[.val (.long p1), .second, .val (.int p2), .val (.int p3), .val (.long p4), .second, .val (.int c501), .val (.int (1 : Int32)), .val (.int (1 : Int32)), .val (.long (p1 - (1 : Int64))), .second, .val (.ref b663)] [(.long (own_minL p4 (p1 - (1 : Int64))))]))
          refine own_lload X683 hx (hb hby at_106) rfl rfl ?_
          refine own_lload X683 hx (hb hby at_108) rfl rfl ?_
          refine own_static X683 hx hZ (y := (⟨"java/lang/Math", "min", "(JJ)J"⟩ : MethodName)) hown (hw _ (List.mem_of_getElem? (i := 355) rfl)) (hw _ (List.mem_of_getElem? (i := 345) rfl)) (hw _ (List.mem_of_getElem? (i := 121) rfl)) (hw _ (List.mem_of_getElem? (i := 346) rfl)) (by decide) hh683 (by decide) (W := 2) (by decide) (by decide) (by decide) [(.long p4), (.long (p1 - (1 : Int64)))] [(.long (own_minL p4 (p1 - (1 : Int64))))] (by rw [hml]; rfl) (own_mnL l Z a0 hw p4 (p1 - (1 : Int64)) T679.heap n0) own_pd27 rfl rfl rfl (hb hby at_110) rfl ?_
          intro v684 T684 L684 X684 hQ684
          obtain ⟨rfl, Nq684, hh684⟩ := hQ684
          have N684 := Fr.app N683 Nq684
          show own_Ends p e below _ (T684.setTop (mkF m 113 #[.val (.long p1), .second, .val (.int p2), .val (.int p3), .val (.long p4), .second, .val (.int c501), .val (.int (1 : Int32)), .val (.int (1 : Int32)), .val (.long (p1 - (1 : Int64))), .second, .val (.ref b663)] [(.long (own_minL p4 (p1 - (1 : Int64)))), (.long (own_minL p4 (p1 - (1 : Int64))))]))
          refine own_lcmp X684 hx (hb hby at_113) rfl ?_
          refine own_ifF X684 hx (hb hby at_114) rfl (teq ((lw_eq _ _).mpr rfl)).2 ?_
          refine own_iconst X684 hx (1 : Int32) (hb hby at_117) (by decide) rfl ?_
          refine own_goto X684 hx (hb hby at_118) (by decide) rfl ?_
          exact own_retNH X684 hx hZ hh684 HH680 hEL hlocks hret (by simp) (hb hby at_122) (by decide) (by decide) (by decide) ⟨rfl, N684⟩
theorem own_fldN {args : Array Value} {s : State} {t : Term} {y : Addr} {O n d : String} (ev : t.eval args s none [] s = some (.ref y)) (h : (Jvm.Cond.eq (.field t O n d) .null).value args s none s [] = some true) : Fld s s.heap y O n d .null := by
  refine Fld.start ?_
  have e1 := fld_at (C := O) (n := n) (dd := d) ev
  cases hv : s.fieldOf? y O n d with
  | none => simp [Cond.value, e1, hv] at h
  | some v =>
    have e2 : Term.null.eval args s none [] s = some .null := rfl
    rw [hv] at e1
    cases v <;> simp_all [Cond.value]
theorem own_fldE {args : Array Value} {s : State} {t : Term} {y z : Addr} {O n d : String} (ev : t.eval args s none [] s = some (.ref y)) (h : (Term.field t O n d).eval args s none [] s = some (.ref z)) : Fld s s.heap y O n d (.ref z) := by
  refine Fld.start ?_
  have e1 := fld_at (C := O) (n := n) (dd := d) ev
  rw [← e1]; exact h
theorem own_refEq {args : Array Value} {s : State} {t1 t2 : Term} {y z : Addr} (e1 : t1.eval args s none [] s = some (.ref y)) (e2 : t2.eval args s none [] s = some (.ref z)) (h : (Jvm.Cond.eq t1 t2).value args s none s [] = some true) : z = y := by
  simp [Cond.value, e1, e2] at h
  exact h.symm
theorem own_arr0B {args : Array Value} {s : State} {t : Term} {a : Addr} {ty : FieldType} (hf : Fit s) (ev : t.eval args s none [] s = some (.ref a)) (h : (Jvm.Cond.arrayOf t ty).value args s none s [] = some true) (hl : (Jvm.Cond.eq (.length t) (.int 0)).value args s none s [] = some true) : ∃ k, Arv s s.heap a k ty (0 : Int32) [] (.int (0 : Int32)) := by
  obtain ⟨cl, A⟩ := Arr.start ev h
  have ha := Arr.fin (Vm.Alike.refl _) A
  have hsz : cl.slots.size = 0 := by
    by_cases q : cl.slots.size < 2 ^ 31
    · have e := len_f ev ha q
      have e2 : cl.slots.size.toInt32 = (0 : Int32) := gotT (Cond.eq_ints e (Term.int_eval (0))) hl
      have e3 := len_toInt q
      rw [e2] at e3
      have e4 : (0 : Int32).toInt = 0 := rfl
      omega
    · simp [Cond.value, Term.eval, ev, ha, q] at hl
  exact ⟨cl.cls, Arv.start hf A (by omega) (by rw [hsz]; rfl) (by decide) (by decide) trivial⟩
set_option maxRecDepth 65536 in
set_option maxHeartbeats 40000000 in
theorem comes_1 {Post : Tables → Env → Array Value → State → Outcome → State → Prop} (hpost : ∀ tb e args s v u, (limb_1_1.after args s (.returned v) u = true ∧ limb_1_2.after args s (.returned v) u = true ∧ True) → ReturnedEndW s (.returned v) u (Jvm.fieldLocs frame_1_writes args s ++ Jvm.arrayLocs frame_1_arrays args s ++ Jvm.staticLocs frame_1_statics s) 40 4288 → Post tb e args s (.returned v) u) :
    ArmFor flags0 classFile x code maxLocals ret World_1 tables_1 room_1 Calls_1 rest_1 Pre_1 Post := by
  intro l hfl _ _ p e ha hc hk s m args below hf hA hF happ hP
  obtain ⟨hcalls, hrest, hpre⟩ := hP
  obtain ⟨-, -, -, hnamed, -, -, -, hat⟩ := (Spec.applies_iff hf).mp happ
  obtain ⟨hg, hn⟩ := and_e (Cond.before_iff.mp (show (Jvm.Cond.and given_1 narrow_1).before args s = true from hpre))
  obtain ⟨k1a, k1b⟩ := and_e hg
  obtain ⟨k2a, k2b⟩ := and_e k1b
  obtain ⟨k3a, k3b⟩ := and_e k2b
  obtain ⟨k4a, k4b⟩ := and_e k3b
  obtain ⟨k5a, k5b⟩ := and_e hn
  obtain ⟨k6a, k6b⟩ := and_e k5b
  obtain ⟨k7a, k7b⟩ := and_e k6b
  obtain ⟨k8a, k8b⟩ := and_e k7b
  obtain ⟨k9a, k9b⟩ := and_e k8b
  obtain ⟨k10a, k10b⟩ := and_e k9b
  obtain ⟨k11a, k11b⟩ := and_e k10b
  obtain ⟨w0, w1, w2, w3, rfl⟩ : ∃ w0 w1 w2 w3 : Value, args = #[w0, w1, w2, w3] := by
    have hs : args.size = 4 := by simpa [Cond.value, given_1] using k1a
    obtain ⟨L⟩ := args
    match L, hs with
    | [w0, w1, w2, w3], _ => exact ⟨w0, w1, w2, w3, rfl⟩
  have hw := fun d (hd : d ∈ tables_1) => atoms_spec (ws := Jvm.Cond.code x code maxLocals ret :: tables_1) hat d (List.mem_cons_of_mem _ hd)
  have hfit : Fit s := fun {y c} hc i hi => by
    obtain ⟨ha, rfl⟩ := Array.getElem?_eq_some_iff.mp hc
    have q := List.all_eq_true.mp ((Array.all_eq_true_iff_forall_mem.mp hF) _ (Array.getElem_mem ha)) i (List.mem_range.mpr hi)
    simpa [Array.getElem?_eq_getElem hi] using q
  obtain ⟨hsets, hown0⟩ := atoms_of _ (rest_1_c_eq ▸ (show rest_1_c.before _ s = true from hrest))
  obtain ⟨i0, ei0⟩ := isL_v k2a
  obtain rfl : w0 = (.long i0) := Option.some.inj ei0
  obtain ⟨i1, ei1⟩ := is_v k3a
  obtain rfl : w1 = (.int i1) := Option.some.inj ei1
  obtain ⟨i2, ei2⟩ := is_v k4a
  obtain rfl : w2 = (.int i2) := Option.some.inj ei2
  obtain ⟨i3, ei3⟩ := isL_v k4b
  obtain rfl : w3 = (.long i3) := Option.some.inj ei3
  have nzc := not_v (Cond.before_iff.mp (hsets _ (List.mem_of_getElem? (i := 2) rfl)))
  obtain ⟨zc, ezc⟩ := is_v (Cond.before_iff.mp (hsets _ (List.mem_of_getElem? (i := 1) rfl)))
  have SC := Sta.start ezc (Or.inl (hsets _ (List.mem_of_getElem? (i := 0) rfl)))
  have hzc : ¬ (zc = (0 : Int32)) := gotF (Cond.eq_ints ezc (Term.int_eval (0))) nzc
  have hEL : EW s _ consts_1 := (EW.cons (hw _ (List.mem_of_getElem? (i := 83) rfl)) (by decide) (EW.cons (hw _ (List.mem_of_getElem? (i := 92) rfl)) (by decide) (EW.cons (hw _ (List.mem_of_getElem? (i := 3) rfl)) (by decide) (EW.cons (hw _ (List.mem_of_getElem? (i := 11) rfl)) (by decide) EW.nil))))
  have hCH := CHv.start hEL (fun p hp => (hcalls.2.1 p hp :)) (show Jvm.Lit.compactW.before _ s = true from (hsets _ (List.mem_of_getElem? (i := 2) rfl))) (hw _ (List.mem_of_getElem? (i := 6) rfl)) (hw _ (List.mem_of_getElem? (i := 5) rfl))
  obtain ⟨mc_, mk_, mr, qm1, qm2, qm3, -⟩ := (show Jvm.D.MirrorMade s "[Ljava/lang/Object;" from hcalls.1)
  have M : own_Mir s "[Ljava/lang/Object;" mr := ⟨_, _, qm1, qm2, qm3⟩
  obtain ⟨u8, eu8⟩ := exa_v (Cond.before_iff.mp (hsets _ (List.mem_of_getElem? (i := 14) rfl)))
  have SU := Sta.start eu8 (Or.inl (hsets _ (List.mem_of_getElem? (i := 10) rfl)))
  obtain ⟨u9, eu9⟩ := exa_v (Cond.before_iff.mp (hsets _ (List.mem_of_getElem? (i := 17) rfl)))
  obtain rfl := own_refEq eu8 eu9 (Cond.before_iff.mp (hsets _ (List.mem_of_getElem? (i := 13) rfl)))
  have SI := Sta.start eu9 (Or.inl (hsets _ (List.mem_of_getElem? (i := 12) rfl)))
  have xe := Cond.before_iff.mp (hsets _ (List.mem_of_getElem? (i := 29) rfl))
  obtain ⟨em, eem⟩ := exa_v xe
  have XE := Exa.start eem xe
  have SE := Sta.start eem (Or.inl (hsets _ (List.mem_of_getElem? (i := 28) rfl)))
  have FE := own_fldN eem (Cond.before_iff.mp (hsets _ (List.mem_of_getElem? (i := 30) rfl)))
  have xx := Cond.before_iff.mp (hsets _ (List.mem_of_getElem? (i := 20) rfl))
  obtain ⟨eo, eeo⟩ := exa_v xx
  have XX := Exa.start eeo xx
  have SX := Sta.start eeo (Or.inl (hsets _ (List.mem_of_getElem? (i := 19) rfl)))
  obtain ⟨rt, ert⟩ := exa_v k5a
  have XR := Exa.start ert k5a
  have SR := Sta.start ert (Or.inr ⟨(hw _ (List.mem_of_getElem? (i := 14) rfl)), (hw _ (List.mem_of_getElem? (i := 17) rfl))⟩)
  obtain ⟨nl, enl⟩ := exa_v k6a
  have XN := Exa.start enl k6a
  have FNR := own_fldE ert enl
  obtain ⟨c1, ec1⟩ := arr_v k7a
  have FEN := own_fldE enl ec1
  obtain ⟨kc, VE⟩ := own_arr0 hfit ec1 k7a k9a
  have OA := own_fcOf VE (Exa.start ec1 k8a)
  obtain ⟨ky, eky⟩ := arr_v k10a
  have FKR := own_fldE ert eky
  obtain ⟨kk, VK⟩ := own_arr0B hfit eky k10a k11b
  obtain ⟨n, o, h1, h2, h3, _, L, rfl, ⟨rfl, N⟩, hC, hq⟩ := own_law l s _ hw i0 i3 i1 i2 rt _ em eo mr nl c1 ky kc kk zc s.heap s.heap.size hEL (Old.start s) SC hzc SI SU SE XE FE SX XX M XR FNR XN FEN VE OA FKR VK SR tables_1 p e ha hc hk s m _ below hf ((Spec.applies_iff_loose hf).mp happ).1 ⟨rfl, State.Warmed39.refl s, rfl, hCH⟩ trivial
  refine ⟨n, _, h1, h2, h3, hpost _ _ _ _ _ _ ⟨Cond.after_iff.mpr rfl, Cond.after_iff.mpr (eq_i res_at (Term.int_eval (1)) rfl), trivial⟩ ⟨hq.1, hq.2.1, hq.2.2.1, (hq.2.2.2.sift fun y hy => Or.inr (N y hy)).mono (by decide) (by decide)⟩⟩
theorem main_1_1 : Claimed_1_1 := comes_1 fun _ _ _ _ _ _ h hF => ⟨h.1, hF⟩
theorem main_1_2 : Claimed_1_2 := comes_1 fun _ _ _ _ _ _ h hF => ⟨h.2.1, hF⟩
end Jvm.Pilot.@@N@@
namespace Jvm.Pilot.@@N@@
open Jvm Jvm.ClassFile Sem Op Lib Jvm.Free Jvm.Stand Jvm.Pilot.@@N@@.Jvm.D
/-! MADE BY PROGRAM (witnessworld.py) out of the Statement's table words and the real class files: 45 classes; the members and pool entries that the words name. The judged class is class 1, her method 1. -/
namespace start1
open Jvm.ClassFile
def u (s : String) : CpInfo := .utf8 (stringToUtf16 s)
/-- a pool by its gaps: so many unusable entries, then the entry; so many at the end -/
def gap : Nat → List CpInfo → List CpInfo
  | 0, r => r
  | n + 1, r => .unusable :: gap n r
def poolList (es : List (Nat × CpInfo)) (last : Nat) : List CpInfo := es.foldr (fun e r => gap e.1 (e.2 :: r)) (gap last [])
def pool (es : List (Nat × CpInfo)) (last : Nat) : Array CpInfo := ⟨poolList es last⟩
def fileOf (pool : Array CpInfo) (this : Nat) (attrs : Array Attribute := #[]) (ms : Array MethodInfo := #[]) (fl : Nat := 33) (sup : Nat := 0) (ifs : Array Nat := #[]) (fds : Array FieldInfo := #[]) : ClassFile where
  minorVersion := 0
  majorVersion := 65
  constantPool := pool
  accessFlags := fl
  thisClass := this
  superClass := sup
  interfaces := ifs
  fields := fds
  methods := ms
  attributes := attrs
def plain (name : String) (sup : Option ClassId) : Class where
  name := name
  kind := .ordinary
  loader := none
  accessFlags := 33
  super := sup
  interfaces := #[]
  cf := none
  fields := #[]
  methods := #[]
  instanceTypes := #[]
  staticTypes := #[]
  resolved := #[]
  callSites := []
  init := .initialized
  statics := none
  mirror := none

def pool0 : Array CpInfo := pool [(5, u "<init>"), (0, u "()V"), (1, .class_ 10), (1, u "java/lang/Object"), (0, u "getClass"), (0, u "()Ljava/lang/Class;"), (83, u "clone"), (0, u "()Ljava/lang/Object;")] 26

def k0c0 : Code := { maxStack := 0, maxLocals := 1, code := object_method_1_code, exceptionTable := #[], attributes := #[] }
def k0m0 : Method := { name := "<init>", desc := "()V", sig := { parameters := [], returnType := none }, accessFlags := 1, code := some k0c0 }
def k0m1 : Method := { name := "getClass", desc := "()Ljava/lang/Class;", sig := { parameters := [], returnType := some (.object "java/lang/Class") }, accessFlags := 273, code := none }
def k0m2 : Method := { name := "clone", desc := "()Ljava/lang/Object;", sig := { parameters := [], returnType := some (.object "java/lang/Object") }, accessFlags := 260, code := none }
/-- java/lang/Object -/
def k0 : Class := { plain "java/lang/Object" none with
  accessFlags := 33
  interfaces := #[]
  cf := some (fileOf pool0 8 #[] #[{ accessFlags := 1, nameIndex := 5, descriptorIndex := 6, attributes := #[] }, { accessFlags := 273, nameIndex := 11, descriptorIndex := 12, attributes := #[] }, { accessFlags := 260, nameIndex := 96, descriptorIndex := 97, attributes := #[] }] 33 0 #[] #[])
  fields := #[]
  methods := #[k0m0, k0m1, k0m2]
  instanceTypes := #[]
  staticTypes := #[]
  resolved := Array.replicate 124 none
  statics := none }

def pool1 : Array CpInfo := pool [(2, .class_ 4), (1, u "java/lang/Object"), (0, u "<init>"), (0, u "()V"), (0, .class_ 8), (0, u "com/example/lockstitch/lockstitch/engine/tree/SyncToken"), (0, .string 10), (0, u "h"), (0, .string 12), (0, u "c"), (0, .methodref 14 15), (0, .class_ 16), (0, .nameAndType 17 18), (0, u "com/example/lockstitch/lockstitch/engine/tree/ResourcePath"), (0, u "root"), (0, u "()Lcom/example/lockstitch/lockstitch/engine/tree/ResourcePath;"), (0, .methodref 20 21), (0, .class_ 22), (0, .nameAndType 23 24), (0, u "java/lang/String"), (0, u "valueOf"), (0, u "(C)Ljava/lang/String;"), (0, .methodref 14 26), (0, .nameAndType 27 28), (0, u "child"), (0, u "(Ljava/lang/String;)Ljava/util/Optional;"), (0, .methodref 7 30), (0, .nameAndType 5 31), (0, u "(Ljava/lang/String;Ljava/lang/String;JLjava/util/Optional;ZJ)V"), (0, .methodref 7 33), (0, .nameAndType 34 35), (0, u "wholeUpTo"), (0, u "()J"), (0, .methodref 7 37), (0, .nameAndType 38 35), (0, u "begun"), (0, .methodref 40 41), (0, .class_ 42), (0, .nameAndType 43 44), (0, u "java/lang/Math"), (0, u "min"), (0, u "(JJ)J"), (0, .class_ 46), (0, u "com/example/lockstitch/lockstitch/engine/tree/SyncTokenWholeUpToPinLaw"), (2, u "law"), (0, u "(JIIJ)Z")] 3

def k1m0 : Method := { name := "<init>", desc := "()V", sig := { parameters := [], returnType := none }, accessFlags := 1, code := none }
def k1c1 : Code := { maxStack := 10, maxLocals := 12, code := code, exceptionTable := #[], attributes := #[] }
def k1m1 : Method := { name := "law", desc := "(JIIJ)Z", sig := { parameters := [.long, .int, .int, .long], returnType := some .boolean }, accessFlags := 9, code := some k1c1 }
/-- com/example/lockstitch/lockstitch/engine/tree/SyncTokenWholeUpToPinLaw -/
def k1 : Class := { plain "com/example/lockstitch/lockstitch/engine/tree/SyncTokenWholeUpToPinLaw" (some 0) with
  accessFlags := 49
  interfaces := #[]
  cf := some (fileOf pool1 45 #[] #[{ accessFlags := 1, nameIndex := 5, descriptorIndex := 6, attributes := #[] }, { accessFlags := 9, nameIndex := 49, descriptorIndex := 50, attributes := #[] }] 49 2 #[] #[])
  fields := #[]
  methods := #[k1m0, k1m1]
  instanceTypes := #[]
  staticTypes := #[]
  resolved := Array.replicate 54 none
  statics := none }

def pool2 : Array CpInfo := pool [(2, .class_ 4), (1, u "java/util/Optional"), (3, .class_ 10), (1, u "com/example/lockstitch/lockstitch/engine/tree/SyncToken"), (0, u "<init>"), (0, u "(Ljava/lang/String;Ljava/lang/String;JLjava/util/Optional;ZJ)V"), (0, .methodref 14 15), (0, .class_ 16), (0, .nameAndType 11 17), (0, u "java/lang/Object"), (0, u "()V"), (0, .fieldref 8 19), (0, .nameAndType 20 21), (0, u "history"), (0, u "Ljava/lang/String;"), (0, .fieldref 8 23), (0, .nameAndType 24 21), (0, u "collection"), (0, .fieldref 8 26), (0, .nameAndType 27 28), (0, u "revision"), (0, u "J"), (0, .methodref 2 30), (0, .nameAndType 31 32), (0, u "orElse"), (0, u "(Ljava/lang/Object;)Ljava/lang/Object;"), (0, .class_ 34), (0, u "com/example/lockstitch/lockstitch/engine/tree/ResourcePath"), (0, .fieldref 8 36), (0, .nameAndType 37 38), (0, u "inside"), (0, u "Lcom/example/lockstitch/lockstitch/engine/tree/ResourcePath;"), (0, .methodref 2 40), (0, .nameAndType 41 42), (0, u "isPresent"), (0, u "()Z"), (0, .fieldref 8 44), (0, .nameAndType 45 46), (0, u "asFile"), (0, u "Z"), (0, .methodref 8 48), (0, .nameAndType 49 50), (0, u "wholeUpTo"), (0, u "()J"), (0, .methodref 52 53), (0, .class_ 54), (0, .nameAndType 55 56), (0, u "java/lang/Math"), (0, u "min"), (0, u "(JJ)J"), (0, .fieldref 8 58), (0, .nameAndType 59 28), (0, u "begun"), (101, u "PREFIX"), (1, u "MAX_DIGITS"), (0, u "I"), (1, u "AS_FILE"), (0, u "FROM")] 38

def k2c0 : Code := { maxStack := 5, maxLocals := 9, code := prog_27_method_2_code, exceptionTable := #[], attributes := #[] }
def k2m0 : Method := { name := "<init>", desc := "(Ljava/lang/String;Ljava/lang/String;JLjava/util/Optional;ZJ)V", sig := { parameters := [(.object "java/lang/String"), (.object "java/lang/String"), .long, (.object "java/util/Optional"), .boolean, .long], returnType := none }, accessFlags := 0, code := some k2c0 }
def k2c1 : Code := { maxStack := 4, maxLocals := 1, code := prog_27_method_9_code, exceptionTable := #[], attributes := #[] }
def k2m1 : Method := { name := "wholeUpTo", desc := "()J", sig := { parameters := [], returnType := some .long }, accessFlags := 0, code := some k2c1 }
def k2c2 : Code := { maxStack := 2, maxLocals := 1, code := prog_27_method_12_code, exceptionTable := #[], attributes := #[] }
def k2m2 : Method := { name := "begun", desc := "()J", sig := { parameters := [], returnType := some .long }, accessFlags := 0, code := some k2c2 }
/-- com/example/lockstitch/lockstitch/engine/tree/SyncToken -/
def k2 : Class := { plain "com/example/lockstitch/lockstitch/engine/tree/SyncToken" (some 0) with
  accessFlags := 49
  interfaces := #[]
  cf := some (fileOf pool2 8 #[] #[{ accessFlags := 0, nameIndex := 11, descriptorIndex := 12, attributes := #[] }, { accessFlags := 0, nameIndex := 49, descriptorIndex := 50, attributes := #[] }, { accessFlags := 0, nameIndex := 59, descriptorIndex := 50, attributes := #[] }] 49 14 #[] #[{ accessFlags := 26, nameIndex := 161, descriptorIndex := 21, attributes := #[] }, { accessFlags := 26, nameIndex := 163, descriptorIndex := 164, attributes := #[] }, { accessFlags := 26, nameIndex := 166, descriptorIndex := 21, attributes := #[] }, { accessFlags := 26, nameIndex := 167, descriptorIndex := 21, attributes := #[] }, { accessFlags := 18, nameIndex := 20, descriptorIndex := 21, attributes := #[] }, { accessFlags := 18, nameIndex := 24, descriptorIndex := 21, attributes := #[] }, { accessFlags := 18, nameIndex := 27, descriptorIndex := 28, attributes := #[] }, { accessFlags := 18, nameIndex := 37, descriptorIndex := 38, attributes := #[] }, { accessFlags := 18, nameIndex := 45, descriptorIndex := 46, attributes := #[] }, { accessFlags := 18, nameIndex := 59, descriptorIndex := 28, attributes := #[] }])
  fields := #[{ name := "PREFIX", type := (.object "java/lang/String"), accessFlags := 26, slot := 0, constantValue := 0 }, { name := "MAX_DIGITS", type := .int, accessFlags := 26, slot := 1, constantValue := 0 }, { name := "AS_FILE", type := (.object "java/lang/String"), accessFlags := 26, slot := 2, constantValue := 0 }, { name := "FROM", type := (.object "java/lang/String"), accessFlags := 26, slot := 3, constantValue := 0 }, { name := "history", type := (.object "java/lang/String"), accessFlags := 18, slot := 0, constantValue := 0 }, { name := "collection", type := (.object "java/lang/String"), accessFlags := 18, slot := 1, constantValue := 0 }, { name := "revision", type := .long, accessFlags := 18, slot := 2, constantValue := 0 }, { name := "inside", type := (.object "com/example/lockstitch/lockstitch/engine/tree/ResourcePath"), accessFlags := 18, slot := 3, constantValue := 0 }, { name := "asFile", type := .boolean, accessFlags := 18, slot := 4, constantValue := 0 }, { name := "begun", type := .long, accessFlags := 18, slot := 5, constantValue := 0 }]
  methods := #[k2m0, k2m1, k2m2]
  instanceTypes := #[(.object "java/lang/String"), (.object "java/lang/String"), .long, (.object "com/example/lockstitch/lockstitch/engine/tree/ResourcePath"), .boolean, .long]
  staticTypes := #[(.object "java/lang/String"), .int, (.object "java/lang/String"), (.object "java/lang/String")]
  resolved := Array.replicate 206 none
  statics := none }

def pool3 : Array CpInfo := pool [(1, .class_ 2), (0, u "java/io/Serializable"), (0, .class_ 4), (0, u "java/lang/Object")] 2

/-- java/io/Serializable -/
def k3 : Class := { plain "java/io/Serializable" (some 0) with
  accessFlags := 1537
  interfaces := #[]
  cf := some (fileOf pool3 1 #[] #[] 1537 3 #[] #[])
  fields := #[]
  methods := #[]
  instanceTypes := #[]
  staticTypes := #[]
  resolved := Array.replicate 7 none
  statics := none }

def pool4 : Array CpInfo := pool [(1, .class_ 2), (0, u "java/lang/Comparable"), (0, .class_ 4), (0, u "java/lang/Object")] 7

/-- java/lang/Comparable -/
def k4 : Class := { plain "java/lang/Comparable" (some 0) with
  accessFlags := 1537
  interfaces := #[]
  cf := some (fileOf pool4 1 #[] #[] 1537 3 #[] #[])
  fields := #[]
  methods := #[]
  instanceTypes := #[]
  staticTypes := #[]
  resolved := Array.replicate 12 none
  statics := none }

def pool5 : Array CpInfo := pool [(2, .class_ 4), (1, u "java/lang/CharSequence"), (42, .class_ 48), (0, u "java/lang/CharSequence$1CodePointIterator"), (10, .class_ 60), (0, u "java/lang/CharSequence$1CharIterator"), (5, .class_ 67), (0, u "java/lang/Object")] 63

/-- java/lang/CharSequence -/
def k5 : Class := { plain "java/lang/CharSequence" (some 0) with
  accessFlags := 1537
  interfaces := #[]
  cf := some (fileOf pool5 2 #[.nestMembers #[47, 59]] #[] 1537 66 #[] #[])
  fields := #[]
  methods := #[]
  instanceTypes := #[]
  staticTypes := #[]
  resolved := Array.replicate 131 none
  statics := none }

def pool6 : Array CpInfo := pool [(1, .class_ 2), (0, u "java/lang/constant/Constable"), (0, .class_ 4), (0, u "java/lang/Object")] 6

/-- java/lang/constant/Constable -/
def k6 : Class := { plain "java/lang/constant/Constable" (some 0) with
  accessFlags := 1537
  interfaces := #[]
  cf := some (fileOf pool6 1 #[] #[] 1537 3 #[] #[])
  fields := #[]
  methods := #[]
  instanceTypes := #[]
  staticTypes := #[]
  resolved := Array.replicate 11 none
  statics := none }

def pool7 : Array CpInfo := pool [(1, .class_ 2), (0, u "java/lang/constant/ConstantDesc"), (0, .class_ 4), (0, u "java/lang/Object")] 32

/-- java/lang/constant/ConstantDesc -/
def k7 : Class := { plain "java/lang/constant/ConstantDesc" (some 0) with
  accessFlags := 1537
  interfaces := #[]
  cf := some (fileOf pool7 1 #[] #[] 1537 3 #[] #[])
  fields := #[]
  methods := #[]
  instanceTypes := #[]
  staticTypes := #[]
  resolved := Array.replicate 37 none
  statics := none }

def pool8 : Array CpInfo := pool [(1, .methodref 2 3), (0, .class_ 4), (0, .nameAndType 5 6), (0, u "java/lang/Object"), (0, u "<init>"), (0, u "()V"), (2, .fieldref 10 11), (0, .class_ 12), (0, .nameAndType 13 14), (0, u "java/lang/String"), (0, u "value"), (0, u "[B"), (0, .fieldref 10 16), (0, .nameAndType 17 18), (0, u "coder"), (0, u "B"), (2, u "hash"), (0, u "I"), (2, u "hashIsZero"), (0, u "Z"), (11, .fieldref 10 39), (0, .nameAndType 40 26), (0, u "COMPACT_STRINGS"), (1, .class_ 44), (1, u "java/lang/StringUTF16"), (8, u "toBytes"), (6, .methodref 42 61), (0, .nameAndType 62 63), (0, u "newBytesFor"), (0, u "(I)[B"), (22, .fieldref 87 88), (0, .class_ 89), (0, .nameAndType 90 91), (0, u "sun/nio/cs/UTF_8"), (0, u "INSTANCE"), (0, u "Lsun/nio/cs/UTF_8;"), (1, .class_ 95), (1, u "java/lang/StringCoding"), (11, .class_ 109), (1, u "java/lang/StringLatin1"), (18, .methodref 93 129), (0, .nameAndType 130 131), (0, u "hasNegatives"), (0, u "([BII)Z"), (10, u "()Z"), (66, .methodref 10 210), (0, .nameAndType 5 211), (0, u "([BB)V"), (40, .methodref 10 253), (0, .nameAndType 254 255), (0, u "encodeUTF8"), (0, u "(B[BZ)[B"), (23, .methodref 280 281), (0, .class_ 14), (0, .nameAndType 282 283), (0, u "clone"), (0, u "()Ljava/lang/Object;"), (33, u "encode"), (16, u "()I"), (0, .methodref 10 336), (0, .nameAndType 17 337), (0, u "()B"), (31, u "(C)Z"), (122, .methodref 10 493), (0, .nameAndType 494 142), (0, u "isLatin1"), (10, .methodref 10 506), (0, .nameAndType 507 334), (0, u "length"), (24, u "getBytes"), (2, .methodref 10 536), (0, .nameAndType 317 537), (0, u "(Ljava/nio/charset/Charset;B[B)[B"), (3, .methodref 107 542), (0, .nameAndType 543 544), (0, u "equals"), (0, u "([B[B)Z"), (28, u "(Ljava/lang/Object;)Z"), (1, .class_ 576), (0, u "java/lang/CharSequence"), (22, u "CASE_INSENSITIVE_ORDER"), (0, u "Ljava/util/Comparator;"), (32, .methodref 10 634), (0, .nameAndType 635 636), (0, u "indexOf"), (0, u "(II)I"), (0, .methodref 107 638), (0, .nameAndType 635 639), (0, u "([BIII)I"), (125, u "(I)I"), (16, u "valueOf"), (0, u "(C)Ljava/lang/String;"), (231, .methodref 107 1016), (0, .nameAndType 1017 369), (0, u "canEncode"), (0, .methodref 107 1019), (0, .nameAndType 53 1020), (0, u "(C)[B"), (80, u "serialPersistentFields"), (0, u "[Ljava/io/ObjectStreamField;"), (0, .class_ 1104), (0, u "java/lang/String$CaseInsensitiveComparator"), (1, .class_ 1107), (0, u "java/io/Serializable"), (0, .class_ 1109), (0, u "java/lang/Comparable"), (0, .class_ 1111), (0, u "java/lang/constant/Constable"), (0, .class_ 1113), (0, u "java/lang/constant/ConstantDesc"), (2, u "serialVersionUID"), (0, u "J"), (3, u "REPL"), (0, u "C"), (2, u "LATIN1"), (1, u "UTF16"), (117, u "(Ljava/nio/charset/Charset;)[B")] 205

def k8m0 : Method := { name := "<init>", desc := "()V", sig := { parameters := [], returnType := none }, accessFlags := 1, code := none }
def k8c1 : Code := { maxStack := 4, maxLocals := 3, code := jdk_42_method_18_code, exceptionTable := #[], attributes := #[] }
def k8m1 : Method := { name := "encode", desc := "(Ljava/nio/charset/Charset;B[B)[B", sig := { parameters := [(.object "java/nio/charset/Charset"), .byte, (.array .byte)], returnType := some (.array .byte) }, accessFlags := 10, code := some k8c1 }
def k8c2 : Code := { maxStack := 5, maxLocals := 9, code := jdk_42_method_46_code, exceptionTable := #[], attributes := #[] }
def k8m2 : Method := { name := "encodeUTF8", desc := "(B[BZ)[B", sig := { parameters := [.byte, (.array .byte), .boolean], returnType := some (.array .byte) }, accessFlags := 10, code := some k8c2 }
def k8c3 : Code := { maxStack := 2, maxLocals := 1, code := jdk_42_method_54_code, exceptionTable := #[], attributes := #[] }
def k8m3 : Method := { name := "length", desc := "()I", sig := { parameters := [], returnType := some .int }, accessFlags := 1, code := some k8c3 }
def k8c4 : Code := { maxStack := 3, maxLocals := 2, code := jdk_42_method_64_code, exceptionTable := #[], attributes := #[] }
def k8m4 : Method := { name := "getBytes", desc := "(Ljava/nio/charset/Charset;)[B", sig := { parameters := [(.object "java/nio/charset/Charset")], returnType := some (.array .byte) }, accessFlags := 1, code := some k8c4 }
def k8c5 : Code := { maxStack := 2, maxLocals := 3, code := jdk_42_method_66_code, exceptionTable := #[], attributes := #[] }
def k8m5 : Method := { name := "equals", desc := "(Ljava/lang/Object;)Z", sig := { parameters := [(.object "java/lang/Object")], returnType := some .boolean }, accessFlags := 1, code := some k8c5 }
def k8c6 : Code := { maxStack := 3, maxLocals := 2, code := jdk_42_method_79_code, exceptionTable := #[], attributes := #[] }
def k8m6 : Method := { name := "indexOf", desc := "(I)I", sig := { parameters := [.int], returnType := some .int }, accessFlags := 1, code := some k8c6 }
def k8c7 : Code := { maxStack := 4, maxLocals := 3, code := jdk_42_method_80_code, exceptionTable := #[], attributes := #[] }
def k8m7 : Method := { name := "indexOf", desc := "(II)I", sig := { parameters := [.int, .int], returnType := some .int }, accessFlags := 1, code := some k8c7 }
def k8c8 : Code := { maxStack := 4, maxLocals := 1, code := jdk_42_method_139_code, exceptionTable := #[], attributes := #[] }
def k8m8 : Method := { name := "valueOf", desc := "(C)Ljava/lang/String;", sig := { parameters := [.char], returnType := some (.object "java/lang/String") }, accessFlags := 9, code := some k8c8 }
def k8c9 : Code := { maxStack := 2, maxLocals := 3, code := jdk_42_method_151_code, exceptionTable := #[], attributes := #[] }
def k8m9 : Method := { name := "<init>", desc := "([BB)V", sig := { parameters := [(.array .byte), .byte], returnType := none }, accessFlags := 0, code := some k8c9 }
def k8c10 : Code := { maxStack := 1, maxLocals := 1, code := jdk_42_method_152_code, exceptionTable := #[], attributes := #[] }
def k8m10 : Method := { name := "coder", desc := "()B", sig := { parameters := [], returnType := some .byte }, accessFlags := 0, code := some k8c10 }
def k8c11 : Code := { maxStack := 1, maxLocals := 1, code := jdk_42_method_154_code, exceptionTable := #[], attributes := #[] }
def k8m11 : Method := { name := "isLatin1", desc := "()Z", sig := { parameters := [], returnType := some .boolean }, accessFlags := 0, code := some k8c11 }
/-- java/lang/String -/
def k8 : Class := { plain "java/lang/String" (some 0) with
  accessFlags := 49
  interfaces := #[3, 4, 5, 6, 7]
  cf := some (fileOf pool8 10 #[.nestMembers #[1103]] #[{ accessFlags := 1, nameIndex := 5, descriptorIndex := 6, attributes := #[] }, { accessFlags := 10, nameIndex := 317, descriptorIndex := 537, attributes := #[] }, { accessFlags := 10, nameIndex := 254, descriptorIndex := 255, attributes := #[] }, { accessFlags := 1, nameIndex := 507, descriptorIndex := 334, attributes := #[] }, { accessFlags := 1, nameIndex := 532, descriptorIndex := 1245, attributes := #[] }, { accessFlags := 1, nameIndex := 543, descriptorIndex := 573, attributes := #[] }, { accessFlags := 1, nameIndex := 635, descriptorIndex := 765, attributes := #[] }, { accessFlags := 1, nameIndex := 635, descriptorIndex := 636, attributes := #[] }, { accessFlags := 9, nameIndex := 782, descriptorIndex := 783, attributes := #[] }, { accessFlags := 0, nameIndex := 5, descriptorIndex := 211, attributes := #[] }, { accessFlags := 0, nameIndex := 17, descriptorIndex := 337, attributes := #[] }, { accessFlags := 0, nameIndex := 494, descriptorIndex := 142, attributes := #[] }] 49 2 #[1106, 1108, 575, 1110, 1112] #[{ accessFlags := 18, nameIndex := 13, descriptorIndex := 14, attributes := #[] }, { accessFlags := 18, nameIndex := 17, descriptorIndex := 18, attributes := #[] }, { accessFlags := 2, nameIndex := 21, descriptorIndex := 22, attributes := #[] }, { accessFlags := 2, nameIndex := 25, descriptorIndex := 26, attributes := #[] }, { accessFlags := 26, nameIndex := 1116, descriptorIndex := 1117, attributes := #[] }, { accessFlags := 24, nameIndex := 40, descriptorIndex := 26, attributes := #[] }, { accessFlags := 26, nameIndex := 1101, descriptorIndex := 1102, attributes := #[] }, { accessFlags := 26, nameIndex := 1121, descriptorIndex := 1122, attributes := #[] }, { accessFlags := 25, nameIndex := 599, descriptorIndex := 600, attributes := #[] }, { accessFlags := 24, nameIndex := 1125, descriptorIndex := 18, attributes := #[] }, { accessFlags := 24, nameIndex := 1127, descriptorIndex := 18, attributes := #[] }])
  fields := #[{ name := "value", type := (.array .byte), accessFlags := 18, slot := 0, constantValue := 0 }, { name := "coder", type := .byte, accessFlags := 18, slot := 1, constantValue := 0 }, { name := "hash", type := .int, accessFlags := 2, slot := 2, constantValue := 0 }, { name := "hashIsZero", type := .boolean, accessFlags := 2, slot := 3, constantValue := 0 }, { name := "serialVersionUID", type := .long, accessFlags := 26, slot := 0, constantValue := 0 }, { name := "COMPACT_STRINGS", type := .boolean, accessFlags := 24, slot := 1, constantValue := 0 }, { name := "serialPersistentFields", type := (.array (.object "java/io/ObjectStreamField")), accessFlags := 26, slot := 2, constantValue := 0 }, { name := "REPL", type := .char, accessFlags := 26, slot := 3, constantValue := 0 }, { name := "CASE_INSENSITIVE_ORDER", type := (.object "java/util/Comparator"), accessFlags := 25, slot := 4, constantValue := 0 }, { name := "LATIN1", type := .byte, accessFlags := 24, slot := 5, constantValue := 0 }, { name := "UTF16", type := .byte, accessFlags := 24, slot := 6, constantValue := 0 }]
  methods := #[k8m0, k8m1, k8m2, k8m3, k8m4, k8m5, k8m6, k8m7, k8m8, k8m9, k8m10, k8m11]
  instanceTypes := #[(.array .byte), .byte, .int, .boolean]
  staticTypes := #[.long, .boolean, (.array (.object "java/io/ObjectStreamField")), .char, (.object "java/util/Comparator"), .byte, .byte]
  resolved := Array.replicate 1451 none
  statics := some 0 }

def pool9 : Array CpInfo := pool [(2, .class_ 4), (1, u "com/example/lockstitch/lockstitch/engine/tree/ResourcePath"), (2, .methodref 2 8), (0, .nameAndType 9 10), (0, u "<init>"), (0, u "(Ljava/util/List;[B)V"), (0, .methodref 12 13), (0, .class_ 14), (0, .nameAndType 9 15), (0, u "java/lang/Object"), (0, u "()V"), (0, .fieldref 2 17), (0, .nameAndType 18 19), (0, u "names"), (0, u "Ljava/util/List;"), (0, .fieldref 2 21), (0, .nameAndType 22 23), (0, u "key"), (0, u "[B"), (4, .class_ 30), (1, u "java/util/List"), (12, .class_ 44), (0, u "java/lang/String"), (0, .fieldref 46 47), (0, .class_ 48), (0, .nameAndType 49 50), (0, u "java/nio/charset/StandardCharsets"), (0, u "UTF_8"), (0, u "Ljava/nio/charset/Charset;"), (0, .methodref 43 52), (0, .nameAndType 53 54), (0, u "getBytes"), (0, u "(Ljava/nio/charset/Charset;)[B"), (7, u "(I)V"), (4, .fieldref 2 68), (0, .nameAndType 69 70), (0, u "ROOT"), (0, u "Lcom/example/lockstitch/lockstitch/engine/tree/ResourcePath;"), (2, u "isResourceName"), (1, .methodref 76 77), (0, .class_ 78), (0, .nameAndType 79 80), (0, u "java/util/Optional"), (0, u "empty"), (0, u "()Ljava/util/Optional;"), (0, .interfaceMethodref 28 82), (0, .nameAndType 83 84), (0, u "copyOf"), (0, u "(Ljava/util/Collection;)Ljava/util/List;"), (3, .methodref 76 89), (0, .nameAndType 90 91), (0, u "of"), (0, u "(Ljava/lang/Object;)Ljava/util/Optional;"), (0, .methodref 2 93), (0, .nameAndType 73 94), (0, u "(Ljava/lang/String;I)Z"), (0, .class_ 96), (0, u "java/util/ArrayList"), (0, .interfaceMethodref 28 98), (0, .nameAndType 99 100), (0, u "size"), (0, u "()I"), (0, .methodref 95 102), (0, .nameAndType 9 62), (0, .interfaceMethodref 28 104), (0, .nameAndType 105 106), (0, u "addAll"), (0, u "(Ljava/util/Collection;)Z"), (0, .interfaceMethodref 28 108), (0, .nameAndType 109 110), (0, u "add"), (0, u "(Ljava/lang/Object;)Z"), (0, .methodref 112 113), (0, .class_ 114), (0, .nameAndType 83 115), (0, u "java/util/Arrays"), (0, u "([BI)[B"), (0, .methodref 117 118), (0, .class_ 119), (0, .nameAndType 120 121), (0, u "java/lang/System"), (0, u "arraycopy"), (0, u "(Ljava/lang/Object;ILjava/lang/Object;II)V"), (0, .string 123), (0, u "."), (0, .methodref 43 125), (0, .nameAndType 126 110), (0, u "equals"), (0, .string 128), (0, u ".."), (0, .methodref 43 130), (0, .nameAndType 131 132), (0, u "indexOf"), (0, u "(I)I"), (52, .class_ 186), (0, u "java/lang/Comparable"), (0, u "MAX_NAME_BYTES"), (0, u "I"), (2, u "KEY_SEPARATOR"), (0, u "B"), (9, u "root"), (0, u "()Lcom/example/lockstitch/lockstitch/engine/tree/ResourcePath;"), (1, u "child"), (0, u "(Ljava/lang/String;)Ljava/util/Optional;")] 34

def k9c0 : Code := { maxStack := 2, maxLocals := 3, code := prog_24_method_2_code, exceptionTable := #[], attributes := #[] }
def k9m0 : Method := { name := "<init>", desc := "(Ljava/util/List;[B)V", sig := { parameters := [(.object "java/util/List"), (.array .byte)], returnType := none }, accessFlags := 2, code := some k9c0 }
def k9c1 : Code := { maxStack := 1, maxLocals := 0, code := prog_24_method_4_code, exceptionTable := #[], attributes := #[] }
def k9m1 : Method := { name := "root", desc := "()Lcom/example/lockstitch/lockstitch/engine/tree/ResourcePath;", sig := { parameters := [], returnType := some (.object "com/example/lockstitch/lockstitch/engine/tree/ResourcePath") }, accessFlags := 9, code := some k9c1 }
def k9c2 : Code := { maxStack := 5, maxLocals := 5, code := prog_24_method_6_code, exceptionTable := #[], attributes := #[] }
def k9m2 : Method := { name := "child", desc := "(Ljava/lang/String;)Ljava/util/Optional;", sig := { parameters := [(.object "java/lang/String")], returnType := some (.object "java/util/Optional") }, accessFlags := 1, code := some k9c2 }
def k9c3 : Code := { maxStack := 2, maxLocals := 4, code := prog_24_method_8_code, exceptionTable := #[], attributes := #[] }
def k9m3 : Method := { name := "isResourceName", desc := "(Ljava/lang/String;I)Z", sig := { parameters := [(.object "java/lang/String"), .int], returnType := some .boolean }, accessFlags := 10, code := some k9c3 }
/-- com/example/lockstitch/lockstitch/engine/tree/ResourcePath -/
def k9 : Class := { plain "com/example/lockstitch/lockstitch/engine/tree/ResourcePath" (some 0) with
  accessFlags := 49
  interfaces := #[4]
  cf := some (fileOf pool9 2 #[] #[{ accessFlags := 2, nameIndex := 9, descriptorIndex := 10, attributes := #[] }, { accessFlags := 9, nameIndex := 202, descriptorIndex := 203, attributes := #[] }, { accessFlags := 1, nameIndex := 205, descriptorIndex := 206, attributes := #[] }, { accessFlags := 10, nameIndex := 73, descriptorIndex := 94, attributes := #[] }] 49 12 #[185] #[{ accessFlags := 26, nameIndex := 69, descriptorIndex := 70, attributes := #[] }, { accessFlags := 26, nameIndex := 187, descriptorIndex := 188, attributes := #[] }, { accessFlags := 26, nameIndex := 191, descriptorIndex := 192, attributes := #[] }, { accessFlags := 18, nameIndex := 18, descriptorIndex := 19, attributes := #[] }, { accessFlags := 18, nameIndex := 22, descriptorIndex := 23, attributes := #[] }])
  fields := #[{ name := "ROOT", type := (.object "com/example/lockstitch/lockstitch/engine/tree/ResourcePath"), accessFlags := 26, slot := 0, constantValue := 0 }, { name := "MAX_NAME_BYTES", type := .int, accessFlags := 26, slot := 1, constantValue := 0 }, { name := "KEY_SEPARATOR", type := .byte, accessFlags := 26, slot := 2, constantValue := 0 }, { name := "names", type := (.object "java/util/List"), accessFlags := 18, slot := 0, constantValue := 0 }, { name := "key", type := (.array .byte), accessFlags := 18, slot := 1, constantValue := 0 }]
  methods := #[k9m0, k9m1, k9m2, k9m3]
  instanceTypes := #[(.object "java/util/List"), (.array .byte)]
  staticTypes := #[(.object "com/example/lockstitch/lockstitch/engine/tree/ResourcePath"), .int, .byte]
  resolved := Array.replicate 241 none
  statics := some 1 }

def pool10 : Array CpInfo := pool [(4, .class_ 6), (1, u "java/lang/Object"), (0, u "<init>"), (0, u "()V"), (5, .class_ 16), (1, u "java/lang/StringLatin1"), (21, .methodref 39 40), (0, .class_ 41), (0, .nameAndType 42 43), (0, u "java/lang/Math"), (0, u "min"), (0, u "(II)I"), (44, .methodref 14 89), (0, .nameAndType 90 91), (0, u "canEncode"), (0, u "(I)Z"), (0, .methodref 39 93), (0, .nameAndType 94 43), (0, u "max"), (0, .methodref 14 96), (0, .nameAndType 97 98), (0, u "indexOfChar"), (0, u "([BIII)I"), (2, u "indexOf"), (3, u "(C)Z"), (15, u "$assertionsDisabled"), (0, u "Z"), (98, .class_ 223), (1, u "java/lang/StringLatin1$LinesSpliterator"), (57, u "equals"), (0, u "([B[B)Z"), (97, u "toBytes"), (1, u "(C)[B"), (7, .class_ 391), (0, u "java/lang/StringLatin1$CharsSpliterator")] 3

def k10m0 : Method := { name := "<init>", desc := "()V", sig := { parameters := [], returnType := none }, accessFlags := 0, code := none }
def k10c1 : Code := { maxStack := 2, maxLocals := 1, code := jdk_43_method_3_code, exceptionTable := #[], attributes := #[] }
def k10m1 : Method := { name := "canEncode", desc := "(C)Z", sig := { parameters := [.char], returnType := some .boolean }, accessFlags := 9, code := some k10c1 }
def k10c2 : Code := { maxStack := 2, maxLocals := 1, code := jdk_43_method_4_code, exceptionTable := #[], attributes := #[] }
def k10m2 : Method := { name := "canEncode", desc := "(I)Z", sig := { parameters := [.int], returnType := some .boolean }, accessFlags := 9, code := some k10c2 }
def k10c3 : Code := { maxStack := 3, maxLocals := 3, code := jdk_43_method_13_code, exceptionTable := #[], attributes := #[] }
def k10m3 : Method := { name := "equals", desc := "([B[B)Z", sig := { parameters := [(.array .byte), (.array .byte)], returnType := some .boolean }, accessFlags := 9, code := some k10c3 }
def k10c4 : Code := { maxStack := 4, maxLocals := 4, code := jdk_43_method_22_code, exceptionTable := #[], attributes := #[] }
def k10m4 : Method := { name := "indexOf", desc := "([BIII)I", sig := { parameters := [(.array .byte), .int, .int, .int], returnType := some .int }, accessFlags := 9, code := some k10c4 }
def k10c5 : Code := { maxStack := 2, maxLocals := 6, code := jdk_43_method_23_code, exceptionTable := #[], attributes := #[] }
def k10m5 : Method := { name := "indexOfChar", desc := "([BIII)I", sig := { parameters := [(.array .byte), .int, .int, .int], returnType := some .int }, accessFlags := 10, code := some k10c5 }
def k10c6 : Code := { maxStack := 4, maxLocals := 1, code := jdk_43_method_46_code, exceptionTable := #[], attributes := #[] }
def k10m6 : Method := { name := "toBytes", desc := "(C)[B", sig := { parameters := [.char], returnType := some (.array .byte) }, accessFlags := 9, code := some k10c6 }
/-- java/lang/StringLatin1 -/
def k10 : Class := { plain "java/lang/StringLatin1" (some 0) with
  accessFlags := 48
  interfaces := #[]
  cf := some (fileOf pool10 14 #[.nestMembers #[390, 221]] #[{ accessFlags := 0, nameIndex := 7, descriptorIndex := 8, attributes := #[] }, { accessFlags := 9, nameIndex := 90, descriptorIndex := 105, attributes := #[] }, { accessFlags := 9, nameIndex := 90, descriptorIndex := 91, attributes := #[] }, { accessFlags := 9, nameIndex := 281, descriptorIndex := 282, attributes := #[] }, { accessFlags := 9, nameIndex := 101, descriptorIndex := 98, attributes := #[] }, { accessFlags := 10, nameIndex := 97, descriptorIndex := 98, attributes := #[] }, { accessFlags := 9, nameIndex := 380, descriptorIndex := 382, attributes := #[] }] 48 4 #[] #[{ accessFlags := 4120, nameIndex := 121, descriptorIndex := 122, attributes := #[] }])
  fields := #[{ name := "$assertionsDisabled", type := .boolean, accessFlags := 4120, slot := 0, constantValue := 0 }]
  methods := #[k10m0, k10m1, k10m2, k10m3, k10m4, k10m5, k10m6]
  instanceTypes := #[]
  staticTypes := #[.boolean]
  resolved := Array.replicate 395 none
  statics := none }

def pool11 : Array CpInfo := pool [(2, .class_ 4), (1, u "java/lang/Object"), (0, u "<init>"), (0, u "()V"), (14, .class_ 23), (1, u "java/nio/charset/StandardCharsets"), (0, u "US_ASCII"), (0, u "Ljava/nio/charset/Charset;"), (7, u "ISO_8859_1"), (7, u "UTF_8"), (5, u "UTF_16BE"), (5, u "UTF_16LE"), (5, u "UTF_16")] 8

def k11m0 : Method := { name := "<init>", desc := "()V", sig := { parameters := [], returnType := none }, accessFlags := 2, code := none }
/-- java/nio/charset/StandardCharsets -/
def k11 : Class := { plain "java/nio/charset/StandardCharsets" (some 0) with
  accessFlags := 49
  interfaces := #[]
  cf := some (fileOf pool11 21 #[] #[{ accessFlags := 2, nameIndex := 5, descriptorIndex := 6, attributes := #[] }] 49 2 #[] #[{ accessFlags := 25, nameIndex := 24, descriptorIndex := 25, attributes := #[] }, { accessFlags := 25, nameIndex := 33, descriptorIndex := 25, attributes := #[] }, { accessFlags := 25, nameIndex := 41, descriptorIndex := 25, attributes := #[] }, { accessFlags := 25, nameIndex := 47, descriptorIndex := 25, attributes := #[] }, { accessFlags := 25, nameIndex := 53, descriptorIndex := 25, attributes := #[] }, { accessFlags := 25, nameIndex := 59, descriptorIndex := 25, attributes := #[] }])
  fields := #[{ name := "US_ASCII", type := (.object "java/nio/charset/Charset"), accessFlags := 25, slot := 0, constantValue := 0 }, { name := "ISO_8859_1", type := (.object "java/nio/charset/Charset"), accessFlags := 25, slot := 1, constantValue := 0 }, { name := "UTF_8", type := (.object "java/nio/charset/Charset"), accessFlags := 25, slot := 2, constantValue := 0 }, { name := "UTF_16BE", type := (.object "java/nio/charset/Charset"), accessFlags := 25, slot := 3, constantValue := 0 }, { name := "UTF_16LE", type := (.object "java/nio/charset/Charset"), accessFlags := 25, slot := 4, constantValue := 0 }, { name := "UTF_16", type := (.object "java/nio/charset/Charset"), accessFlags := 25, slot := 5, constantValue := 0 }]
  methods := #[k11m0]
  instanceTypes := #[]
  staticTypes := #[(.object "java/nio/charset/Charset"), (.object "java/nio/charset/Charset"), (.object "java/nio/charset/Charset"), (.object "java/nio/charset/Charset"), (.object "java/nio/charset/Charset"), (.object "java/nio/charset/Charset")]
  resolved := Array.replicate 68 none
  statics := some 2 }

def pool12 : Array CpInfo := pool [(18, .class_ 20), (1, u "java/nio/charset/Charset"), (0, u "cache1"), (0, u "[Ljava/lang/Object;"), (2, u "cache2"), (0, .class_ 27), (0, u "java/lang/Object"), (0, .class_ 29), (0, u "java/nio/charset/Charset$1"), (4, .class_ 36), (1, u "java/nio/charset/Charset$ThreadTrackHolder"), (21, .class_ 59), (0, u "java/nio/charset/Charset$2"), (11, .class_ 73), (1, u "java/nio/charset/Charset$ExtendedProviderHolder"), (22, u "standardProvider"), (0, u "Ljava/nio/charset/spi/CharsetProvider;"), (29, u "name"), (7, .class_ 136), (0, u "java/nio/charset/Charset$3"), (5, u "defaultCharset"), (0, u "Ljava/nio/charset/Charset;"), (14, u "zeroAliases"), (0, u "[Ljava/lang/String;"), (29, u "Ljava/lang/String;"), (2, u "aliases"), (2, u "aliasSet"), (0, u "Ljava/util/Set;"), (82, .class_ 280), (0, u "java/lang/Comparable"), (84, .class_ 366), (0, u "java/nio/charset/Charset$ExtendedProviderHolder$1")] 3

/-- java/nio/charset/Charset -/
def k12 : Class := { plain "java/nio/charset/Charset" (some 0) with
  accessFlags := 1057
  interfaces := #[4]
  cf := some (fileOf pool12 18 #[.nestMembers #[71, 365, 34, 135, 58, 28]] #[] 1057 26 #[279] #[{ accessFlags := 26, nameIndex := 96, descriptorIndex := 97, attributes := #[] }, { accessFlags := 26, nameIndex := 158, descriptorIndex := 159, attributes := #[] }, { accessFlags := 74, nameIndex := 21, descriptorIndex := 22, attributes := #[] }, { accessFlags := 74, nameIndex := 25, descriptorIndex := 22, attributes := #[] }, { accessFlags := 10, nameIndex := 142, descriptorIndex := 143, attributes := #[] }, { accessFlags := 18, nameIndex := 127, descriptorIndex := 189, attributes := #[] }, { accessFlags := 18, nameIndex := 192, descriptorIndex := 159, attributes := #[] }, { accessFlags := 2, nameIndex := 195, descriptorIndex := 196, attributes := #[] }])
  fields := #[{ name := "standardProvider", type := (.object "java/nio/charset/spi/CharsetProvider"), accessFlags := 26, slot := 0, constantValue := 0 }, { name := "zeroAliases", type := (.array (.object "java/lang/String")), accessFlags := 26, slot := 1, constantValue := 0 }, { name := "cache1", type := (.array (.object "java/lang/Object")), accessFlags := 74, slot := 2, constantValue := 0 }, { name := "cache2", type := (.array (.object "java/lang/Object")), accessFlags := 74, slot := 3, constantValue := 0 }, { name := "defaultCharset", type := (.object "java/nio/charset/Charset"), accessFlags := 10, slot := 4, constantValue := 0 }, { name := "name", type := (.object "java/lang/String"), accessFlags := 18, slot := 0, constantValue := 0 }, { name := "aliases", type := (.array (.object "java/lang/String")), accessFlags := 18, slot := 1, constantValue := 0 }, { name := "aliasSet", type := (.object "java/util/Set"), accessFlags := 2, slot := 2, constantValue := 0 }]
  methods := #[]
  instanceTypes := #[(.object "java/lang/String"), (.array (.object "java/lang/String")), (.object "java/util/Set")]
  staticTypes := #[(.object "java/nio/charset/spi/CharsetProvider"), (.array (.object "java/lang/String")), (.array (.object "java/lang/Object")), (.array (.object "java/lang/Object")), (.object "java/nio/charset/Charset")]
  resolved := Array.replicate 370 none
  statics := none }

def pool13 : Array CpInfo := pool [(1, .class_ 2), (0, u "sun/nio/cs/HistoricallyNamedCharset"), (0, .class_ 4), (0, u "java/lang/Object")] 4

/-- sun/nio/cs/HistoricallyNamedCharset -/
def k13 : Class := { plain "sun/nio/cs/HistoricallyNamedCharset" (some 0) with
  accessFlags := 1537
  interfaces := #[]
  cf := some (fileOf pool13 1 #[] #[] 1537 3 #[] #[])
  fields := #[]
  methods := #[]
  instanceTypes := #[]
  staticTypes := #[]
  resolved := Array.replicate 9 none
  statics := none }

def pool14 : Array CpInfo := pool [(2, .class_ 4), (1, u "java/nio/charset/Charset"), (130, .class_ 136), (0, u "sun/nio/cs/Unicode"), (0, .class_ 138), (0, u "sun/nio/cs/HistoricallyNamedCharset")] 15

/-- sun/nio/cs/Unicode -/
def k14 : Class := { plain "sun/nio/cs/Unicode" (some 12) with
  accessFlags := 1056
  interfaces := #[13]
  cf := some (fileOf pool14 135 #[] #[] 1056 2 #[137] #[])
  fields := #[]
  methods := #[]
  instanceTypes := #[(.object "java/lang/String"), (.array (.object "java/lang/String")), (.object "java/util/Set")]
  staticTypes := #[]
  resolved := Array.replicate 154 none
  statics := none }

def pool15 : Array CpInfo := pool [(10, .class_ 12), (1, u "sun/nio/cs/Unicode"), (0, u "<init>"), (3, .class_ 18), (0, u "sun/nio/cs/UTF_8$Decoder"), (3, .class_ 23), (0, u "sun/nio/cs/UTF_8$Encoder"), (15, .class_ 40), (0, u "sun/nio/cs/UTF_8"), (2, u "()V"), (2, u "INSTANCE"), (0, u "Lsun/nio/cs/UTF_8;"), (8, u "JLA"), (0, u "Ljdk/internal/access/JavaLangAccess;")] 26

def k15m0 : Method := { name := "<init>", desc := "()V", sig := { parameters := [], returnType := none }, accessFlags := 1, code := none }
/-- sun/nio/cs/UTF_8 -/
def k15 : Class := { plain "sun/nio/cs/UTF_8" (some 14) with
  accessFlags := 49
  interfaces := #[]
  cf := some (fileOf pool15 39 #[.nestMembers #[22, 17]] #[{ accessFlags := 1, nameIndex := 13, descriptorIndex := 43, attributes := #[] }] 49 10 #[] #[{ accessFlags := 25, nameIndex := 46, descriptorIndex := 47, attributes := #[] }, { accessFlags := 26, nameIndex := 56, descriptorIndex := 57, attributes := #[] }])
  fields := #[{ name := "INSTANCE", type := (.object "sun/nio/cs/UTF_8"), accessFlags := 25, slot := 0, constantValue := 0 }, { name := "JLA", type := (.object "jdk/internal/access/JavaLangAccess"), accessFlags := 26, slot := 1, constantValue := 0 }]
  methods := #[k15m0]
  instanceTypes := #[(.object "java/lang/String"), (.array (.object "java/lang/String")), (.object "java/util/Set")]
  staticTypes := #[(.object "sun/nio/cs/UTF_8"), (.object "jdk/internal/access/JavaLangAccess")]
  resolved := Array.replicate 84 none
  statics := some 3 }

def pool16 : Array CpInfo := pool [(2, .class_ 4), (1, u "java/lang/Object"), (0, u "<init>"), (0, u "()V"), (0, .methodref 8 9), (0, .class_ 10), (0, .nameAndType 11 12), (0, u "java/lang/StringCoding"), (0, u "countPositives"), (0, u "([BII)I"), (11, u "hasNegatives"), (0, u "([BII)Z")] 23

def k16m0 : Method := { name := "<init>", desc := "()V", sig := { parameters := [], returnType := none }, accessFlags := 2, code := none }
def k16c1 : Code := { maxStack := 3, maxLocals := 3, code := jdk_123_method_2_code, exceptionTable := #[], attributes := #[] }
def k16m1 : Method := { name := "hasNegatives", desc := "([BII)Z", sig := { parameters := [(.array .byte), .int, .int], returnType := some .boolean }, accessFlags := 9, code := some k16c1 }
def k16c2 : Code := { maxStack := 2, maxLocals := 5, code := jdk_123_method_3_code, exceptionTable := #[], attributes := #[] }
def k16m2 : Method := { name := "countPositives", desc := "([BII)I", sig := { parameters := [(.array .byte), .int, .int], returnType := some .int }, accessFlags := 9, code := some k16c2 }
/-- java/lang/StringCoding -/
def k16 : Class := { plain "java/lang/StringCoding" (some 0) with
  accessFlags := 32
  interfaces := #[]
  cf := some (fileOf pool16 8 #[] #[{ accessFlags := 2, nameIndex := 5, descriptorIndex := 6, attributes := #[] }, { accessFlags := 9, nameIndex := 24, descriptorIndex := 25, attributes := #[] }, { accessFlags := 9, nameIndex := 11, descriptorIndex := 12, attributes := #[] }] 32 2 #[] #[])
  fields := #[]
  methods := #[k16m0, k16m1, k16m2]
  instanceTypes := #[]
  staticTypes := #[]
  resolved := Array.replicate 49 none
  statics := none }

def pool17 : Array CpInfo := pool [(1, .class_ 2), (0, u "java/lang/Cloneable"), (0, .class_ 4), (0, u "java/lang/Object")] 2

/-- java/lang/Cloneable -/
def k17 : Class := { plain "java/lang/Cloneable" (some 0) with
  accessFlags := 1537
  interfaces := #[]
  cf := some (fileOf pool17 1 #[] #[] 1537 3 #[] #[])
  fields := #[]
  methods := #[]
  instanceTypes := #[]
  staticTypes := #[]
  resolved := Array.replicate 7 none
  statics := none }

def pool18 : Array CpInfo := pool [(1, .class_ 2), (0, u "java/lang/Math"), (1, .class_ 6), (1, u "java/lang/Object"), (0, u "<init>"), (0, u "()V"), (89, .class_ 100), (1, u "java/lang/Math$RandomNumberGeneratorHolder"), (20, u "(JJ)J"), (50, u "negativeZeroFloatBits"), (0, u "J"), (2, u "negativeZeroDoubleBits"), (21, u "max"), (2, u "min"), (43, u "$assertionsDisabled"), (0, u "Z"), (88, u "(II)I"), (2, u "twoToTheDoubleScaleDown"), (0, u "D"), (4, u "twoToTheDoubleScaleUp"), (9, u "E"), (3, u "PI"), (2, u "TAU"), (2, u "DEGREES_TO_RADIANS"), (0, u "RADIANS_TO_DEGREES")] 94

def k18m0 : Method := { name := "<init>", desc := "()V", sig := { parameters := [], returnType := none }, accessFlags := 2, code := none }
def k18c1 : Code := { maxStack := 2, maxLocals := 2, code := jdk_29_method_65_code, exceptionTable := #[], attributes := #[] }
def k18m1 : Method := { name := "max", desc := "(II)I", sig := { parameters := [.int, .int], returnType := some .int }, accessFlags := 9, code := some k18c1 }
def k18c2 : Code := { maxStack := 2, maxLocals := 2, code := jdk_29_method_69_code, exceptionTable := #[], attributes := #[] }
def k18m2 : Method := { name := "min", desc := "(II)I", sig := { parameters := [.int, .int], returnType := some .int }, accessFlags := 9, code := some k18c2 }
def k18c3 : Code := { maxStack := 4, maxLocals := 4, code := jdk_29_method_70_code, exceptionTable := #[], attributes := #[] }
def k18m3 : Method := { name := "min", desc := "(JJ)J", sig := { parameters := [.long, .long], returnType := some .long }, accessFlags := 9, code := some k18c3 }
/-- java/lang/Math -/
def k18 : Class := { plain "java/lang/Math" (some 0) with
  accessFlags := 49
  interfaces := #[]
  cf := some (fileOf pool18 1 #[.nestMembers #[98]] #[{ accessFlags := 2, nameIndex := 7, descriptorIndex := 8, attributes := #[] }, { accessFlags := 9, nameIndex := 198, descriptorIndex := 335, attributes := #[] }, { accessFlags := 9, nameIndex := 201, descriptorIndex := 335, attributes := #[] }, { accessFlags := 9, nameIndex := 201, descriptorIndex := 121, attributes := #[] }] 49 4 #[] #[{ accessFlags := 25, nameIndex := 354, descriptorIndex := 339, attributes := #[] }, { accessFlags := 25, nameIndex := 358, descriptorIndex := 339, attributes := #[] }, { accessFlags := 25, nameIndex := 361, descriptorIndex := 339, attributes := #[] }, { accessFlags := 26, nameIndex := 364, descriptorIndex := 339, attributes := #[] }, { accessFlags := 26, nameIndex := 365, descriptorIndex := 339, attributes := #[] }, { accessFlags := 26, nameIndex := 172, descriptorIndex := 173, attributes := #[] }, { accessFlags := 26, nameIndex := 176, descriptorIndex := 173, attributes := #[] }, { accessFlags := 8, nameIndex := 344, descriptorIndex := 339, attributes := #[] }, { accessFlags := 8, nameIndex := 338, descriptorIndex := 339, attributes := #[] }, { accessFlags := 4120, nameIndex := 245, descriptorIndex := 246, attributes := #[] }])
  fields := #[{ name := "E", type := .double, accessFlags := 25, slot := 0, constantValue := 0 }, { name := "PI", type := .double, accessFlags := 25, slot := 1, constantValue := 0 }, { name := "TAU", type := .double, accessFlags := 25, slot := 2, constantValue := 0 }, { name := "DEGREES_TO_RADIANS", type := .double, accessFlags := 26, slot := 3, constantValue := 0 }, { name := "RADIANS_TO_DEGREES", type := .double, accessFlags := 26, slot := 4, constantValue := 0 }, { name := "negativeZeroFloatBits", type := .long, accessFlags := 26, slot := 5, constantValue := 0 }, { name := "negativeZeroDoubleBits", type := .long, accessFlags := 26, slot := 6, constantValue := 0 }, { name := "twoToTheDoubleScaleUp", type := .double, accessFlags := 8, slot := 7, constantValue := 0 }, { name := "twoToTheDoubleScaleDown", type := .double, accessFlags := 8, slot := 8, constantValue := 0 }, { name := "$assertionsDisabled", type := .boolean, accessFlags := 4120, slot := 9, constantValue := 0 }]
  methods := #[k18m0, k18m1, k18m2, k18m3]
  instanceTypes := #[]
  staticTypes := #[.double, .double, .double, .double, .double, .long, .long, .double, .double, .boolean]
  resolved := Array.replicate 460 none
  statics := none }

def pool19 : Array CpInfo := pool [(8, .class_ 10), (1, u "java/lang/Iterable"), (24, .class_ 36), (0, u "java/lang/Object")] 25

/-- java/lang/Iterable -/
def k19 : Class := { plain "java/lang/Iterable" (some 0) with
  accessFlags := 1537
  interfaces := #[]
  cf := some (fileOf pool19 8 #[] #[] 1537 35 #[] #[])
  fields := #[]
  methods := #[]
  instanceTypes := #[]
  staticTypes := #[]
  resolved := Array.replicate 62 none
  statics := none }

def pool20 : Array CpInfo := pool [(10, .class_ 12), (1, u "java/util/Collection"), (0, u "toArray"), (16, u "()Z"), (29, .class_ 61), (0, u "java/lang/Object"), (0, .class_ 63), (0, u "java/lang/Iterable"), (2, u "isEmpty"), (3, u "()[Ljava/lang/Object;")] 44

def k20m0 : Method := { name := "isEmpty", desc := "()Z", sig := { parameters := [], returnType := some .boolean }, accessFlags := 1025, code := none }
def k20m1 : Method := { name := "toArray", desc := "()[Ljava/lang/Object;", sig := { parameters := [], returnType := some (.array (.object "java/lang/Object")) }, accessFlags := 1025, code := none }
/-- java/util/Collection -/
def k20 : Class := { plain "java/util/Collection" (some 0) with
  accessFlags := 1537
  interfaces := #[19]
  cf := some (fileOf pool20 10 #[] #[{ accessFlags := 1025, nameIndex := 66, descriptorIndex := 30, attributes := #[] }, { accessFlags := 1025, nameIndex := 13, descriptorIndex := 70, attributes := #[] }] 1537 60 #[62] #[])
  fields := #[]
  methods := #[k20m0, k20m1]
  instanceTypes := #[]
  staticTypes := #[]
  resolved := Array.replicate 115 none
  statics := none }

def pool21 : Array CpInfo := pool [(1, .methodref 2 3), (0, .class_ 4), (0, .nameAndType 5 6), (0, u "java/lang/Object"), (0, u "<init>"), (0, u "()V"), (1, .class_ 10), (1, u "java/util/AbstractCollection"), (66, .class_ 78), (0, u "java/util/Collection")] 81

def k21c0 : Code := { maxStack := 1, maxLocals := 1, code := jdk_22_method_1_code, exceptionTable := #[], attributes := #[] }
def k21m0 : Method := { name := "<init>", desc := "()V", sig := { parameters := [], returnType := none }, accessFlags := 4, code := some k21c0 }
/-- java/util/AbstractCollection -/
def k21 : Class := { plain "java/util/AbstractCollection" (some 0) with
  accessFlags := 1057
  interfaces := #[20]
  cf := some (fileOf pool21 8 #[] #[{ accessFlags := 4, nameIndex := 5, descriptorIndex := 6, attributes := #[] }] 1057 2 #[77] #[])
  fields := #[]
  methods := #[k21m0]
  instanceTypes := #[]
  staticTypes := #[]
  resolved := Array.replicate 160 none
  statics := none }

def pool22 : Array CpInfo := pool [(8, .class_ 10), (1, u "java/util/SequencedCollection"), (15, .class_ 27), (0, u "java/lang/Object"), (0, .class_ 29), (0, u "java/util/Collection")] 27

/-- java/util/SequencedCollection -/
def k22 : Class := { plain "java/util/SequencedCollection" (some 0) with
  accessFlags := 1537
  interfaces := #[20]
  cf := some (fileOf pool22 8 #[] #[] 1537 26 #[28] #[])
  fields := #[]
  methods := #[]
  instanceTypes := #[]
  staticTypes := #[]
  resolved := Array.replicate 57 none
  statics := none }

def pool23 : Array CpInfo := pool [(8, .class_ 10), (1, u "java/util/List"), (20, u "(Ljava/lang/Object;)V"), (16, u "<init>"), (11, u "add"), (3, u "(Ljava/lang/Object;)Z"), (14, u "size"), (0, u "()I"), (7, u "of"), (2, .class_ 93), (1, u "java/util/ImmutableCollections"), (2, .class_ 97), (0, u "java/util/ImmutableCollections$List12"), (0, .methodref 96 99), (0, .nameAndType 48 31), (3, .class_ 104), (0, u "java/lang/Object"), (3, u "([Ljava/lang/Object;)Ljava/util/List;"), (3, .methodref 91 113), (0, .nameAndType 114 115), (0, u "listCopy"), (0, u "(Ljava/util/Collection;)Ljava/util/List;"), (4, .class_ 121), (0, u "java/util/SequencedCollection"), (9, u "(Ljava/util/Collection;)Z"), (1, u "addAll"), (100, u "copyOf")] 16

def k23m0 : Method := { name := "size", desc := "()I", sig := { parameters := [], returnType := some .int }, accessFlags := 1025, code := none }
def k23m1 : Method := { name := "add", desc := "(Ljava/lang/Object;)Z", sig := { parameters := [(.object "java/lang/Object")], returnType := some .boolean }, accessFlags := 1025, code := none }
def k23m2 : Method := { name := "addAll", desc := "(Ljava/util/Collection;)Z", sig := { parameters := [(.object "java/util/Collection")], returnType := some .boolean }, accessFlags := 1025, code := none }
def k23c3 : Code := { maxStack := 5, maxLocals := 2, code := jdk_40_method_47_code, exceptionTable := #[], attributes := #[] }
def k23m3 : Method := { name := "of", desc := "([Ljava/lang/Object;)Ljava/util/List;", sig := { parameters := [(.array (.object "java/lang/Object"))], returnType := some (.object "java/util/List") }, accessFlags := 137, code := some k23c3 }
def k23c4 : Code := { maxStack := 1, maxLocals := 1, code := jdk_40_method_48_code, exceptionTable := #[], attributes := #[] }
def k23m4 : Method := { name := "copyOf", desc := "(Ljava/util/Collection;)Ljava/util/List;", sig := { parameters := [(.object "java/util/Collection")], returnType := some (.object "java/util/List") }, accessFlags := 9, code := some k23c4 }
/-- java/util/List -/
def k23 : Class := { plain "java/util/List" (some 0) with
  accessFlags := 1537
  interfaces := #[22]
  cf := some (fileOf pool23 8 #[] #[{ accessFlags := 1025, nameIndex := 79, descriptorIndex := 80, attributes := #[] }, { accessFlags := 1025, nameIndex := 60, descriptorIndex := 64, attributes := #[] }, { accessFlags := 1025, nameIndex := 133, descriptorIndex := 131, attributes := #[] }, { accessFlags := 137, nameIndex := 88, descriptorIndex := 108, attributes := #[] }, { accessFlags := 9, nameIndex := 234, descriptorIndex := 115, attributes := #[] }] 1537 103 #[120] #[])
  fields := #[]
  methods := #[k23m0, k23m1, k23m2, k23m3, k23m4]
  instanceTypes := #[]
  staticTypes := #[]
  resolved := Array.replicate 251 none
  statics := none }

def pool24 : Array CpInfo := pool [(1, .methodref 2 3), (0, .class_ 4), (0, .nameAndType 5 6), (0, u "java/util/AbstractCollection"), (0, u "<init>"), (0, u "()V"), (0, .fieldref 8 9), (0, .class_ 10), (0, .nameAndType 11 12), (0, u "java/util/AbstractList"), (0, u "modCount"), (0, u "I"), (64, .class_ 78), (0, u "java/util/AbstractList$Itr"), (3, .class_ 83), (0, u "java/util/AbstractList$ListItr"), (9, .class_ 94), (0, u "java/util/AbstractList$RandomAccessSubList"), (3, .class_ 99), (0, u "java/util/AbstractList$SubList"), (33, .class_ 134), (0, u "java/util/List"), (73, .class_ 209), (0, u "java/util/AbstractList$SubList$1"), (0, .class_ 211), (0, u "java/util/AbstractList$RandomAccessSpliterator")] 6

def k24c0 : Code := { maxStack := 2, maxLocals := 1, code := jdk_39_method_1_code, exceptionTable := #[], attributes := #[] }
def k24m0 : Method := { name := "<init>", desc := "()V", sig := { parameters := [], returnType := none }, accessFlags := 4, code := some k24c0 }
/-- java/util/AbstractList -/
def k24 : Class := { plain "java/util/AbstractList" (some 21) with
  accessFlags := 1057
  interfaces := #[23]
  cf := some (fileOf pool24 8 #[.nestMembers #[93, 98, 208, 210, 82, 77]] #[{ accessFlags := 4, nameIndex := 5, descriptorIndex := 6, attributes := #[] }] 1057 2 #[133] #[{ accessFlags := 132, nameIndex := 11, descriptorIndex := 12, attributes := #[] }])
  fields := #[{ name := "modCount", type := .int, accessFlags := 132, slot := 0, constantValue := 0 }]
  methods := #[k24m0]
  instanceTypes := #[.int]
  staticTypes := #[]
  resolved := Array.replicate 218 none
  statics := none }

def pool25 : Array CpInfo := pool [(1, .class_ 2), (0, u "java/util/RandomAccess"), (0, .class_ 4), (0, u "java/lang/Object")] 2

/-- java/util/RandomAccess -/
def k25 : Class := { plain "java/util/RandomAccess" (some 0) with
  accessFlags := 1537
  interfaces := #[]
  cf := some (fileOf pool25 1 #[] #[] 1537 3 #[] #[])
  fields := #[]
  methods := #[]
  instanceTypes := #[]
  staticTypes := #[]
  resolved := Array.replicate 7 none
  statics := none }

def pool26 : Array CpInfo := pool [(1, .methodref 2 3), (0, .class_ 4), (0, .nameAndType 5 6), (0, u "java/util/AbstractList"), (0, u "<init>"), (0, u "()V"), (0, .class_ 8), (0, u "java/lang/Object"), (0, .fieldref 10 11), (0, .class_ 12), (0, .nameAndType 13 14), (0, u "java/util/ArrayList"), (0, u "elementData"), (0, u "[Ljava/lang/Object;"), (2, u "EMPTY_ELEMENTDATA"), (23, u "DEFAULTCAPACITY_EMPTY_ELEMENTDATA"), (0, .interfaceMethodref 43 44), (0, .class_ 45), (0, .nameAndType 46 47), (0, u "java/util/Collection"), (0, u "toArray"), (0, u "()[Ljava/lang/Object;"), (0, .fieldref 10 49), (0, .nameAndType 50 51), (0, u "size"), (0, u "I"), (6, .class_ 60), (1, u "java/util/Arrays"), (0, u "copyOf"), (1, .fieldref 10 64), (0, .nameAndType 65 51), (0, u "modCount"), (0, .methodref 58 67), (0, .nameAndType 61 68), (0, u "([Ljava/lang/Object;I)[Ljava/lang/Object;"), (27, u "(Ljava/lang/Object;)Z"), (34, .methodref 10 132), (0, .nameAndType 133 134), (0, u "add"), (0, u "(Ljava/lang/Object;[Ljava/lang/Object;I)V"), (3, u "(I)V"), (9, .class_ 149), (0, u "java/util/List"), (23, u "()Z"), (88, .class_ 263), (0, u "java/util/ArrayList$ListItr"), (3, .class_ 268), (0, u "java/util/ArrayList$Itr"), (7, .class_ 277), (0, u "java/util/ArrayList$SubList"), (12, .class_ 291), (0, u "java/util/ArrayList$ArrayListSpliterator"), (37, .class_ 330), (0, u "java/util/RandomAccess"), (0, .class_ 332), (0, u "java/lang/Cloneable"), (0, .class_ 334), (0, u "java/io/Serializable"), (0, u "serialVersionUID"), (0, u "J"), (3, u "DEFAULT_CAPACITY"), (22, u "isEmpty"), (56, u "addAll"), (0, u "(Ljava/util/Collection;)Z"), (78, .class_ 501), (0, u "java/util/ArrayList$SubList$2"), (0, .class_ 503), (0, u "java/util/ArrayList$SubList$1")] 5

def k26c0 : Code := { maxStack := 4, maxLocals := 2, code := jdk_38_method_1_code, exceptionTable := #[], attributes := #[] }
def k26m0 : Method := { name := "<init>", desc := "(I)V", sig := { parameters := [.int], returnType := none }, accessFlags := 1, code := some k26c0 }
def k26m1 : Method := { name := "<init>", desc := "()V", sig := { parameters := [], returnType := none }, accessFlags := 1, code := none }
def k26c2 : Code := { maxStack := 1, maxLocals := 1, code := jdk_38_method_9_code, exceptionTable := #[], attributes := #[] }
def k26m2 : Method := { name := "isEmpty", desc := "()Z", sig := { parameters := [], returnType := some .boolean }, accessFlags := 1, code := some k26c2 }
def k26c3 : Code := { maxStack := 2, maxLocals := 1, code := jdk_38_method_16_code, exceptionTable := #[], attributes := #[] }
def k26m3 : Method := { name := "toArray", desc := "()[Ljava/lang/Object;", sig := { parameters := [], returnType := some (.array (.object "java/lang/Object")) }, accessFlags := 1, code := some k26c3 }
def k26c4 : Code := { maxStack := 3, maxLocals := 4, code := jdk_38_method_24_code, exceptionTable := #[], attributes := #[] }
def k26m4 : Method := { name := "add", desc := "(Ljava/lang/Object;[Ljava/lang/Object;I)V", sig := { parameters := [(.object "java/lang/Object"), (.array (.object "java/lang/Object")), .int], returnType := none }, accessFlags := 2, code := some k26c4 }
def k26c5 : Code := { maxStack := 4, maxLocals := 2, code := jdk_38_method_25_code, exceptionTable := #[], attributes := #[] }
def k26m5 : Method := { name := "add", desc := "(Ljava/lang/Object;)Z", sig := { parameters := [(.object "java/lang/Object")], returnType := some .boolean }, accessFlags := 1, code := some k26c5 }
def k26c6 : Code := { maxStack := 5, maxLocals := 6, code := jdk_38_method_41_code, exceptionTable := #[], attributes := #[] }
def k26m6 : Method := { name := "addAll", desc := "(Ljava/util/Collection;)Z", sig := { parameters := [(.object "java/util/Collection")], returnType := some .boolean }, accessFlags := 1, code := some k26c6 }
/-- java/util/ArrayList -/
def k26 : Class := { plain "java/util/ArrayList" (some 24) with
  accessFlags := 33
  interfaces := #[23, 25, 17, 3]
  cf := some (fileOf pool26 10 #[.nestMembers #[290, 276, 500, 502, 262, 267]] #[{ accessFlags := 1, nameIndex := 5, descriptorIndex := 138, attributes := #[] }, { accessFlags := 1, nameIndex := 5, descriptorIndex := 6, attributes := #[] }, { accessFlags := 1, nameIndex := 363, descriptorIndex := 173, attributes := #[] }, { accessFlags := 1, nameIndex := 46, descriptorIndex := 47, attributes := #[] }, { accessFlags := 2, nameIndex := 133, descriptorIndex := 134, attributes := #[] }, { accessFlags := 1, nameIndex := 133, descriptorIndex := 96, attributes := #[] }, { accessFlags := 1, nameIndex := 420, descriptorIndex := 421, attributes := #[] }] 33 2 #[148, 329, 331, 333] #[{ accessFlags := 26, nameIndex := 335, descriptorIndex := 336, attributes := #[] }, { accessFlags := 26, nameIndex := 340, descriptorIndex := 51, attributes := #[] }, { accessFlags := 26, nameIndex := 17, descriptorIndex := 14, attributes := #[] }, { accessFlags := 26, nameIndex := 41, descriptorIndex := 14, attributes := #[] }, { accessFlags := 128, nameIndex := 13, descriptorIndex := 14, attributes := #[] }, { accessFlags := 2, nameIndex := 50, descriptorIndex := 51, attributes := #[] }])
  fields := #[{ name := "serialVersionUID", type := .long, accessFlags := 26, slot := 0, constantValue := 0 }, { name := "DEFAULT_CAPACITY", type := .int, accessFlags := 26, slot := 1, constantValue := 0 }, { name := "EMPTY_ELEMENTDATA", type := (.array (.object "java/lang/Object")), accessFlags := 26, slot := 2, constantValue := 0 }, { name := "DEFAULTCAPACITY_EMPTY_ELEMENTDATA", type := (.array (.object "java/lang/Object")), accessFlags := 26, slot := 3, constantValue := 0 }, { name := "elementData", type := (.array (.object "java/lang/Object")), accessFlags := 128, slot := 1, constantValue := 0 }, { name := "size", type := .int, accessFlags := 2, slot := 2, constantValue := 0 }]
  methods := #[k26m0, k26m1, k26m2, k26m3, k26m4, k26m5, k26m6]
  instanceTypes := #[.int, (.array (.object "java/lang/Object")), .int]
  staticTypes := #[.long, .int, (.array (.object "java/lang/Object")), (.array (.object "java/lang/Object"))]
  resolved := Array.replicate 509 none
  statics := none }

def pool27 : Array CpInfo := pool [(1, .methodref 2 3), (0, .class_ 4), (0, .nameAndType 5 6), (0, u "java/util/AbstractCollection"), (0, u "<init>"), (0, u "()V"), (1, .class_ 10), (1, u "java/util/ImmutableCollections"), (2, .class_ 14), (0, u "java/util/ImmutableCollections$AbstractImmutableCollection")] 41

def k27c0 : Code := { maxStack := 1, maxLocals := 1, code := jdk_47_method_1_code, exceptionTable := #[], attributes := #[] }
def k27m0 : Method := { name := "<init>", desc := "()V", sig := { parameters := [], returnType := none }, accessFlags := 0, code := some k27c0 }
/-- java/util/ImmutableCollections$AbstractImmutableCollection -/
def k27 : Class := { plain "java/util/ImmutableCollections$AbstractImmutableCollection" (some 21) with
  accessFlags := 1056
  interfaces := #[]
  cf := some (fileOf pool27 13 #[.nestHost 8] #[{ accessFlags := 0, nameIndex := 5, descriptorIndex := 6, attributes := #[] }] 1056 2 #[] #[])
  fields := #[]
  methods := #[k27m0]
  instanceTypes := #[]
  staticTypes := #[]
  resolved := Array.replicate 56 none
  statics := none }

def pool28 : Array CpInfo := pool [(1, .methodref 2 3), (0, .class_ 4), (0, .nameAndType 5 6), (0, u "java/util/ImmutableCollections$AbstractImmutableCollection"), (0, u "<init>"), (0, u "()V"), (1, .class_ 10), (1, u "java/util/ImmutableCollections"), (3, .class_ 16), (1, u "java/util/ImmutableCollections$AbstractImmutableList"), (60, .class_ 78), (0, u "java/util/List"), (45, .class_ 125), (0, u "java/util/RandomAccess")] 70

def k28c0 : Code := { maxStack := 1, maxLocals := 1, code := jdk_46_method_1_code, exceptionTable := #[], attributes := #[] }
def k28m0 : Method := { name := "<init>", desc := "()V", sig := { parameters := [], returnType := none }, accessFlags := 0, code := some k28c0 }
/-- java/util/ImmutableCollections$AbstractImmutableList -/
def k28 : Class := { plain "java/util/ImmutableCollections$AbstractImmutableList" (some 27) with
  accessFlags := 1056
  interfaces := #[23, 25]
  cf := some (fileOf pool28 14 #[.nestHost 8] #[{ accessFlags := 0, nameIndex := 5, descriptorIndex := 6, attributes := #[] }] 1056 2 #[77, 124] #[])
  fields := #[]
  methods := #[k28m0]
  instanceTypes := #[]
  staticTypes := #[]
  resolved := Array.replicate 196 none
  statics := none }

def pool29 : Array CpInfo := pool [(2, .class_ 4), (1, u "java/util/ImmutableCollections$AbstractImmutableList"), (2, .fieldref 8 9), (0, .class_ 10), (0, .nameAndType 11 12), (0, u "java/util/ImmutableCollections$ListN"), (0, u "elements"), (0, u "[Ljava/lang/Object;"), (2, u "allowNulls"), (0, u "Z"), (12, .methodref 30 31), (0, .class_ 32), (0, .nameAndType 33 34), (0, u "java/util/Arrays"), (0, u "copyOf"), (0, u "([Ljava/lang/Object;I)[Ljava/lang/Object;"), (24, .class_ 60), (0, u "java/io/Serializable"), (16, u "size"), (0, u "()I"), (16, u "toArray"), (0, u "()[Ljava/lang/Object;"), (17, .class_ 115), (0, u "java/util/ImmutableCollections")] 3

def k29c0 : Code := { maxStack := 1, maxLocals := 1, code := jdk_45_method_3_code, exceptionTable := #[], attributes := #[] }
def k29m0 : Method := { name := "size", desc := "()I", sig := { parameters := [], returnType := some .int }, accessFlags := 1, code := some k29c0 }
def k29c1 : Code := { maxStack := 2, maxLocals := 1, code := jdk_45_method_7_code, exceptionTable := #[], attributes := #[] }
def k29m1 : Method := { name := "toArray", desc := "()[Ljava/lang/Object;", sig := { parameters := [], returnType := some (.array (.object "java/lang/Object")) }, accessFlags := 1, code := some k29c1 }
/-- java/util/ImmutableCollections$ListN -/
def k29 : Class := { plain "java/util/ImmutableCollections$ListN" (some 28) with
  accessFlags := 48
  interfaces := #[3]
  cf := some (fileOf pool29 8 #[.nestHost 114] #[{ accessFlags := 1, nameIndex := 77, descriptorIndex := 78, attributes := #[] }, { accessFlags := 1, nameIndex := 95, descriptorIndex := 96, attributes := #[] }] 48 2 #[59] #[{ accessFlags := 18, nameIndex := 11, descriptorIndex := 12, attributes := #[] }, { accessFlags := 18, nameIndex := 15, descriptorIndex := 16, attributes := #[] }])
  fields := #[{ name := "elements", type := (.array (.object "java/lang/Object")), accessFlags := 18, slot := 0, constantValue := 0 }, { name := "allowNulls", type := .boolean, accessFlags := 18, slot := 1, constantValue := 0 }]
  methods := #[k29m0, k29m1]
  instanceTypes := #[(.array (.object "java/lang/Object")), .boolean]
  staticTypes := #[]
  resolved := Array.replicate 119 none
  statics := none }

def pool30 : Array CpInfo := pool [(2, .class_ 4), (1, u "java/lang/Object"), (0, u "<init>"), (0, u "()V"), (7, .class_ 16), (1, u "java/util/Arrays"), (57, .class_ 76), (1, u "java/util/Arrays$NaturalOrder"), (9, .methodref 2 87), (0, .nameAndType 88 89), (0, u "getClass"), (0, u "()Ljava/lang/Class;"), (20, .class_ 111), (0, u "[Ljava/lang/Object;"), (1, .class_ 115), (1, u "java/util/Arrays$LegacyMergeSort"), (1, u "Z"), (32, .methodref 151 152), (0, .class_ 153), (0, .nameAndType 154 155), (0, u "java/lang/System"), (0, u "arraycopy"), (0, u "(Ljava/lang/Object;ILjava/lang/Object;II)V"), (144, .methodref 14 301), (0, .nameAndType 302 303), (0, u "copyOf"), (0, u "([Ljava/lang/Object;ILjava/lang/Class;)[Ljava/lang/Object;"), (0, .methodref 305 306), (0, .class_ 307), (0, .nameAndType 308 309), (0, u "java/lang/Math"), (0, u "min"), (0, u "(II)I"), (65, .class_ 376), (0, u "java/util/Arrays$ArrayList"), (68, u "$assertionsDisabled"), (269, u "MIN_ARRAY_SORT_GRAN"), (0, u "I"), (2, u "INSERTIONSORT_THRESHOLD"), (140, u "([Ljava/lang/Object;I)[Ljava/lang/Object;"), (8, u "([BI)[B"), (105, .class_ 976), (0, u "java/util/Arrays$ArrayItr")] 52

def k30m0 : Method := { name := "<init>", desc := "()V", sig := { parameters := [], returnType := none }, accessFlags := 2, code := none }
def k30c1 : Code := { maxStack := 3, maxLocals := 2, code := jdk_65_method_119_code, exceptionTable := #[], attributes := #[] }
def k30m1 : Method := { name := "copyOf", desc := "([Ljava/lang/Object;I)[Ljava/lang/Object;", sig := { parameters := [(.array (.object "java/lang/Object")), .int], returnType := some (.array (.object "java/lang/Object")) }, accessFlags := 9, code := some k30c1 }
def k30c2 : Code := { maxStack := 6, maxLocals := 4, code := jdk_65_method_120_code, exceptionTable := #[], attributes := #[] }
def k30m2 : Method := { name := "copyOf", desc := "([Ljava/lang/Object;ILjava/lang/Class;)[Ljava/lang/Object;", sig := { parameters := [(.array (.object "java/lang/Object")), .int, (.object "java/lang/Class")], returnType := some (.array (.object "java/lang/Object")) }, accessFlags := 9, code := some k30c2 }
def k30c3 : Code := { maxStack := 6, maxLocals := 3, code := jdk_65_method_121_code, exceptionTable := #[], attributes := #[] }
def k30m3 : Method := { name := "copyOf", desc := "([BI)[B", sig := { parameters := [(.array .byte), .int], returnType := some (.array .byte) }, accessFlags := 9, code := some k30c3 }
/-- java/util/Arrays -/
def k30 : Class := { plain "java/util/Arrays" (some 0) with
  accessFlags := 49
  interfaces := #[]
  cf := some (fileOf pool30 14 #[.nestMembers #[975, 375, 113, 74]] #[{ accessFlags := 2, nameIndex := 5, descriptorIndex := 6, attributes := #[] }, { accessFlags := 9, nameIndex := 302, descriptorIndex := 860, attributes := #[] }, { accessFlags := 9, nameIndex := 302, descriptorIndex := 303, attributes := #[] }, { accessFlags := 9, nameIndex := 302, descriptorIndex := 869, attributes := #[] }] 49 2 #[] #[{ accessFlags := 26, nameIndex := 715, descriptorIndex := 716, attributes := #[] }, { accessFlags := 26, nameIndex := 719, descriptorIndex := 716, attributes := #[] }, { accessFlags := 4120, nameIndex := 445, descriptorIndex := 117, attributes := #[] }])
  fields := #[{ name := "MIN_ARRAY_SORT_GRAN", type := .int, accessFlags := 26, slot := 0, constantValue := 0 }, { name := "INSERTIONSORT_THRESHOLD", type := .int, accessFlags := 26, slot := 1, constantValue := 0 }, { name := "$assertionsDisabled", type := .boolean, accessFlags := 4120, slot := 2, constantValue := 0 }]
  methods := #[k30m0, k30m1, k30m2, k30m3]
  instanceTypes := #[]
  staticTypes := #[.int, .int, .boolean]
  resolved := Array.replicate 1029 none
  statics := none }

def pool31 : Array CpInfo := pool [(2, .class_ 4), (1, u "java/lang/Object"), (0, u "<init>"), (0, u "()V"), (1, .class_ 10), (1, u "java/lang/System"), (0, u "allowSecurityManager"), (0, u "I"), (16, u "cons"), (0, u "Ljava/io/Console;"), (77, .class_ 110), (1, u "java/lang/System$CallersHolder"), (43, u "initialErrStream"), (0, u "Ljava/io/PrintStream;"), (19, u "security"), (0, u "Ljava/lang/SecurityManager;"), (31, .class_ 209), (0, u "java/lang/System$1"), (7, u "props"), (0, u "Ljava/util/Properties;"), (2, u "lineSeparator"), (0, u "Ljava/lang/String;"), (96, .class_ 321), (1, u "java/lang/System$LoggerFinder"), (5, .class_ 328), (0, u "java/lang/System$Logger"), (67, u "err"), (2, u "out"), (91, u "notSupportedJnuEncoding"), (15, u "in"), (17, u "initialIn"), (0, u "Ljava/io/InputStream;"), (35, u "bootLayer"), (0, u "Ljava/lang/ModuleLayer;"), (99, .class_ 664), (0, u "java/lang/System$2"), (9, u "NEVER"), (2, u "MAYBE"), (49, u "arraycopy"), (0, u "(Ljava/lang/Object;ILjava/lang/Object;II)V"), (72, .class_ 802), (0, u "java/lang/System$Logger$Level")] 31

def k31m0 : Method := { name := "<init>", desc := "()V", sig := { parameters := [], returnType := none }, accessFlags := 2, code := none }
def k31m1 : Method := { name := "arraycopy", desc := "(Ljava/lang/Object;ILjava/lang/Object;II)V", sig := { parameters := [(.object "java/lang/Object"), .int, (.object "java/lang/Object"), .int, .int], returnType := none }, accessFlags := 265, code := none }
/-- java/lang/System -/
def k31 : Class := { plain "java/lang/System" (some 0) with
  accessFlags := 49
  interfaces := #[]
  cf := some (fileOf pool31 8 #[.nestMembers #[319, 327, 801, 108, 663, 208]] #[{ accessFlags := 2, nameIndex := 5, descriptorIndex := 6, attributes := #[] }, { accessFlags := 265, nameIndex := 727, descriptorIndex := 728, attributes := #[] }] 49 2 #[] #[{ accessFlags := 25, nameIndex := 507, descriptorIndex := 526, attributes := #[] }, { accessFlags := 25, nameIndex := 399, descriptorIndex := 155, attributes := #[] }, { accessFlags := 25, nameIndex := 396, descriptorIndex := 155, attributes := #[] }, { accessFlags := 10, nameIndex := 525, descriptorIndex := 526, attributes := #[] }, { accessFlags := 26, nameIndex := 674, descriptorIndex := 12, attributes := #[] }, { accessFlags := 26, nameIndex := 677, descriptorIndex := 12, attributes := #[] }, { accessFlags := 10, nameIndex := 11, descriptorIndex := 12, attributes := #[] }, { accessFlags := 74, nameIndex := 175, descriptorIndex := 176, attributes := #[] }, { accessFlags := 10, nameIndex := 491, descriptorIndex := 222, attributes := #[] }, { accessFlags := 74, nameIndex := 29, descriptorIndex := 30, attributes := #[] }, { accessFlags := 74, nameIndex := 154, descriptorIndex := 155, attributes := #[] }, { accessFlags := 10, nameIndex := 217, descriptorIndex := 218, attributes := #[] }, { accessFlags := 10, nameIndex := 221, descriptorIndex := 222, attributes := #[] }, { accessFlags := 8, nameIndex := 562, descriptorIndex := 563, attributes := #[] }])
  fields := #[{ name := "in", type := (.object "java/io/InputStream"), accessFlags := 25, slot := 0, constantValue := 0 }, { name := "out", type := (.object "java/io/PrintStream"), accessFlags := 25, slot := 1, constantValue := 0 }, { name := "err", type := (.object "java/io/PrintStream"), accessFlags := 25, slot := 2, constantValue := 0 }, { name := "initialIn", type := (.object "java/io/InputStream"), accessFlags := 10, slot := 3, constantValue := 0 }, { name := "NEVER", type := .int, accessFlags := 26, slot := 4, constantValue := 0 }, { name := "MAYBE", type := .int, accessFlags := 26, slot := 5, constantValue := 0 }, { name := "allowSecurityManager", type := .int, accessFlags := 10, slot := 6, constantValue := 0 }, { name := "security", type := (.object "java/lang/SecurityManager"), accessFlags := 74, slot := 7, constantValue := 0 }, { name := "notSupportedJnuEncoding", type := (.object "java/lang/String"), accessFlags := 10, slot := 8, constantValue := 0 }, { name := "cons", type := (.object "java/io/Console"), accessFlags := 74, slot := 9, constantValue := 0 }, { name := "initialErrStream", type := (.object "java/io/PrintStream"), accessFlags := 74, slot := 10, constantValue := 0 }, { name := "props", type := (.object "java/util/Properties"), accessFlags := 10, slot := 11, constantValue := 0 }, { name := "lineSeparator", type := (.object "java/lang/String"), accessFlags := 10, slot := 12, constantValue := 0 }, { name := "bootLayer", type := (.object "java/lang/ModuleLayer"), accessFlags := 8, slot := 13, constantValue := 0 }]
  methods := #[k31m0, k31m1]
  instanceTypes := #[]
  staticTypes := #[(.object "java/io/InputStream"), (.object "java/io/PrintStream"), (.object "java/io/PrintStream"), (.object "java/io/InputStream"), .int, .int, .int, (.object "java/lang/SecurityManager"), (.object "java/lang/String"), (.object "java/io/Console"), (.object "java/io/PrintStream"), (.object "java/util/Properties"), (.object "java/lang/String"), (.object "java/lang/ModuleLayer")]
  resolved := Array.replicate 834 none
  statics := none }

def pool32 : Array CpInfo := pool [(2, .class_ 4), (1, u "java/lang/Object"), (0, u "<init>"), (0, u "()V"), (3, .class_ 11), (0, u "java/util/ImmutableCollections$List12"), (0, .class_ 13), (0, u "java/util/ImmutableCollections$ListN"), (3, u "Z"), (0, .class_ 19), (0, u "java/util/List"), (0, .interfaceMethodref 21 22), (0, .class_ 23), (0, .nameAndType 24 25), (0, u "java/util/Collection"), (0, u "isEmpty"), (0, u "()Z"), (2, u "of"), (1, .interfaceMethodref 21 31), (0, .nameAndType 32 33), (0, u "toArray"), (0, u "()[Ljava/lang/Object;"), (0, .interfaceMethodref 18 35), (0, .nameAndType 28 36), (0, u "([Ljava/lang/Object;)Ljava/util/List;"), (10, .class_ 49), (1, u "java/util/ImmutableCollections"), (0, u "$assertionsDisabled"), (5, u "[Ljava/lang/Object;"), (5, u "EMPTY_LIST"), (0, u "Ljava/util/ImmutableCollections$ListN;"), (8, u "EMPTY_LIST_NULLS"), (22, u "SALT32L"), (0, u "J"), (2, u "REVERSE"), (6, u "archivedObjects"), (2, u "EMPTY"), (0, u "Ljava/lang/Object;"), (0, .class_ 112), (0, u "java/util/ImmutableCollections$SetN"), (5, u "EMPTY_SET"), (0, u "Ljava/util/ImmutableCollections$SetN;"), (0, .class_ 121), (0, u "java/util/ImmutableCollections$MapN"), (3, u "EMPTY_MAP"), (0, u "Ljava/util/ImmutableCollections$MapN;"), (4, u "EXPAND_FACTOR"), (0, u "I"), (9, u "listCopy"), (0, u "(Ljava/util/Collection;)Ljava/util/List;"), (25, .class_ 170), (0, u "java/util/ImmutableCollections$MapN$MapNIterator"), (0, .class_ 172), (0, u "java/util/ImmutableCollections$MapN$1"), (0, .class_ 174), (0, u "java/util/ImmutableCollections$Map1"), (0, .class_ 176), (0, u "java/util/ImmutableCollections$AbstractImmutableMap"), (0, .class_ 178), (0, u "java/util/ImmutableCollections$SetN$SetNIterator"), (0, .class_ 180), (0, u "java/util/ImmutableCollections$Set12"), (0, .class_ 182), (0, u "java/util/ImmutableCollections$Set12$1"), (0, .class_ 184), (0, u "java/util/ImmutableCollections$AbstractImmutableSet"), (0, .class_ 186), (0, u "java/util/ImmutableCollections$SubList"), (0, .class_ 188), (0, u "java/util/ImmutableCollections$ListItr"), (0, .class_ 190), (0, u "java/util/ImmutableCollections$AbstractImmutableList"), (0, .class_ 192), (0, u "java/util/ImmutableCollections$AbstractImmutableCollection"), (0, .class_ 194), (0, u "java/util/ImmutableCollections$Access"), (0, .class_ 196), (0, u "java/util/ImmutableCollections$Access$1")] 16

def k32m0 : Method := { name := "<init>", desc := "()V", sig := { parameters := [], returnType := none }, accessFlags := 2, code := none }
def k32c1 : Code := { maxStack := 1, maxLocals := 2, code := jdk_56_method_3_code, exceptionTable := #[], attributes := #[] }
def k32m1 : Method := { name := "listCopy", desc := "(Ljava/util/Collection;)Ljava/util/List;", sig := { parameters := [(.object "java/util/Collection")], returnType := some (.object "java/util/List") }, accessFlags := 8, code := some k32c1 }
/-- java/util/ImmutableCollections -/
def k32 : Class := { plain "java/util/ImmutableCollections" (some 0) with
  accessFlags := 32
  interfaces := #[]
  cf := some (fileOf pool32 47 #[.nestMembers #[120, 169, 171, 173, 175, 111, 177, 179, 181, 183, 12, 10, 185, 187, 189, 191, 193, 195]] #[{ accessFlags := 2, nameIndex := 5, descriptorIndex := 6, attributes := #[] }, { accessFlags := 8, nameIndex := 142, descriptorIndex := 143, attributes := #[] }] 32 2 #[] #[{ accessFlags := 26, nameIndex := 95, descriptorIndex := 96, attributes := #[] }, { accessFlags := 26, nameIndex := 99, descriptorIndex := 17, attributes := #[] }, { accessFlags := 10, nameIndex := 106, descriptorIndex := 56, attributes := #[] }, { accessFlags := 26, nameIndex := 109, descriptorIndex := 110, attributes := #[] }, { accessFlags := 24, nameIndex := 62, descriptorIndex := 63, attributes := #[] }, { accessFlags := 24, nameIndex := 72, descriptorIndex := 63, attributes := #[] }, { accessFlags := 24, nameIndex := 118, descriptorIndex := 119, attributes := #[] }, { accessFlags := 24, nameIndex := 125, descriptorIndex := 126, attributes := #[] }, { accessFlags := 24, nameIndex := 131, descriptorIndex := 132, attributes := #[] }, { accessFlags := 4120, nameIndex := 50, descriptorIndex := 17, attributes := #[] }])
  fields := #[{ name := "SALT32L", type := .long, accessFlags := 26, slot := 0, constantValue := 0 }, { name := "REVERSE", type := .boolean, accessFlags := 26, slot := 1, constantValue := 0 }, { name := "archivedObjects", type := (.array (.object "java/lang/Object")), accessFlags := 10, slot := 2, constantValue := 0 }, { name := "EMPTY", type := (.object "java/lang/Object"), accessFlags := 26, slot := 3, constantValue := 0 }, { name := "EMPTY_LIST", type := (.object "java/util/ImmutableCollections$ListN"), accessFlags := 24, slot := 4, constantValue := 0 }, { name := "EMPTY_LIST_NULLS", type := (.object "java/util/ImmutableCollections$ListN"), accessFlags := 24, slot := 5, constantValue := 0 }, { name := "EMPTY_SET", type := (.object "java/util/ImmutableCollections$SetN"), accessFlags := 24, slot := 6, constantValue := 0 }, { name := "EMPTY_MAP", type := (.object "java/util/ImmutableCollections$MapN"), accessFlags := 24, slot := 7, constantValue := 0 }, { name := "EXPAND_FACTOR", type := .int, accessFlags := 24, slot := 8, constantValue := 0 }, { name := "$assertionsDisabled", type := .boolean, accessFlags := 4120, slot := 9, constantValue := 0 }]
  methods := #[k32m0, k32m1]
  instanceTypes := #[]
  staticTypes := #[.long, .boolean, (.array (.object "java/lang/Object")), (.object "java/lang/Object"), (.object "java/util/ImmutableCollections$ListN"), (.object "java/util/ImmutableCollections$ListN"), (.object "java/util/ImmutableCollections$SetN"), (.object "java/util/ImmutableCollections$MapN"), .int, .boolean]
  resolved := Array.replicate 213 none
  statics := some 4 }

def pool33 : Array CpInfo := pool [(1, .methodref 2 3), (0, .class_ 4), (0, .nameAndType 5 6), (0, u "java/util/ImmutableCollections$AbstractImmutableList"), (0, u "<init>"), (0, u "()V"), (0, .methodref 8 9), (0, .class_ 10), (0, .nameAndType 11 12), (0, u "java/util/Objects"), (0, u "requireNonNull"), (0, u "(Ljava/lang/Object;)Ljava/lang/Object;"), (0, .fieldref 14 15), (0, .class_ 16), (0, .nameAndType 17 18), (0, u "java/util/ImmutableCollections$List12"), (0, u "e0"), (0, u "Ljava/lang/Object;"), (0, .fieldref 20 21), (0, .class_ 22), (0, .nameAndType 23 18), (0, u "java/util/ImmutableCollections"), (0, u "EMPTY"), (0, .fieldref 14 25), (0, .nameAndType 26 18), (0, u "e1"), (43, .class_ 71), (0, u "java/io/Serializable"), (4, u "(Ljava/lang/Object;)V")] 48

def k33c0 : Code := { maxStack := 2, maxLocals := 2, code := jdk_44_method_1_code, exceptionTable := #[], attributes := #[] }
def k33m0 : Method := { name := "<init>", desc := "(Ljava/lang/Object;)V", sig := { parameters := [(.object "java/lang/Object")], returnType := none }, accessFlags := 0, code := some k33c0 }
/-- java/util/ImmutableCollections$List12 -/
def k33 : Class := { plain "java/util/ImmutableCollections$List12" (some 28) with
  accessFlags := 48
  interfaces := #[3]
  cf := some (fileOf pool33 14 #[.nestHost 20] #[{ accessFlags := 0, nameIndex := 5, descriptorIndex := 76, attributes := #[] }] 48 2 #[70] #[{ accessFlags := 18, nameIndex := 17, descriptorIndex := 18, attributes := #[] }, { accessFlags := 18, nameIndex := 26, descriptorIndex := 18, attributes := #[] }])
  fields := #[{ name := "e0", type := (.object "java/lang/Object"), accessFlags := 18, slot := 0, constantValue := 0 }, { name := "e1", type := (.object "java/lang/Object"), accessFlags := 18, slot := 1, constantValue := 0 }]
  methods := #[k33m0]
  instanceTypes := #[(.object "java/lang/Object"), (.object "java/lang/Object")]
  staticTypes := #[]
  resolved := Array.replicate 125 none
  statics := none }

def pool34 : Array CpInfo := pool [(2, .class_ 4), (1, u "java/lang/Object"), (0, u "<init>"), (0, u "()V"), (35, .class_ 44), (1, u "java/util/Objects"), (0, u "requireNonNull"), (0, u "(Ljava/lang/Object;)Ljava/lang/Object;")] 137

def k34m0 : Method := { name := "<init>", desc := "()V", sig := { parameters := [], returnType := none }, accessFlags := 2, code := none }
def k34c1 : Code := { maxStack := 2, maxLocals := 1, code := jdk_31_method_10_code, exceptionTable := #[], attributes := #[] }
def k34m1 : Method := { name := "requireNonNull", desc := "(Ljava/lang/Object;)Ljava/lang/Object;", sig := { parameters := [(.object "java/lang/Object")], returnType := some (.object "java/lang/Object") }, accessFlags := 9, code := some k34c1 }
/-- java/util/Objects -/
def k34 : Class := { plain "java/util/Objects" (some 0) with
  accessFlags := 49
  interfaces := #[]
  cf := some (fileOf pool34 42 #[] #[{ accessFlags := 2, nameIndex := 5, descriptorIndex := 6, attributes := #[] }, { accessFlags := 9, nameIndex := 45, descriptorIndex := 46, attributes := #[] }] 49 2 #[] #[])
  fields := #[]
  methods := #[k34m0, k34m1]
  instanceTypes := #[]
  staticTypes := #[]
  resolved := Array.replicate 184 none
  statics := none }

def pool35 : Array CpInfo := pool [(1, .fieldref 2 3), (0, .class_ 4), (0, .nameAndType 5 6), (0, u "java/util/Optional"), (0, u "EMPTY"), (0, u "Ljava/util/Optional;"), (0, .methodref 8 9), (0, .class_ 10), (0, .nameAndType 11 12), (0, u "java/lang/Object"), (0, u "<init>"), (0, u "()V"), (0, .fieldref 2 14), (0, .nameAndType 15 16), (0, u "value"), (0, u "Ljava/lang/Object;"), (0, .methodref 18 19), (0, .class_ 20), (0, .nameAndType 21 22), (0, u "java/util/Objects"), (0, u "requireNonNull"), (0, u "(Ljava/lang/Object;)Ljava/lang/Object;"), (0, .methodref 2 24), (0, .nameAndType 11 25), (0, u "(Ljava/lang/Object;)V"), (20, u "()Z"), (8, u "empty"), (0, u "()Ljava/util/Optional;"), (8, u "(Ljava/lang/Object;)Ljava/util/Optional;"), (2, u "isPresent"), (13, u "of"), (82, u "orElse")] 21

def k35c0 : Code := { maxStack := 1, maxLocals := 1, code := jdk_32_method_1_code, exceptionTable := #[], attributes := #[] }
def k35m0 : Method := { name := "empty", desc := "()Ljava/util/Optional;", sig := { parameters := [], returnType := some (.object "java/util/Optional") }, accessFlags := 9, code := some k35c0 }
def k35c1 : Code := { maxStack := 2, maxLocals := 2, code := jdk_32_method_2_code, exceptionTable := #[], attributes := #[] }
def k35m1 : Method := { name := "<init>", desc := "(Ljava/lang/Object;)V", sig := { parameters := [(.object "java/lang/Object")], returnType := none }, accessFlags := 2, code := some k35c1 }
def k35c2 : Code := { maxStack := 3, maxLocals := 1, code := jdk_32_method_3_code, exceptionTable := #[], attributes := #[] }
def k35m2 : Method := { name := "of", desc := "(Ljava/lang/Object;)Ljava/util/Optional;", sig := { parameters := [(.object "java/lang/Object")], returnType := some (.object "java/util/Optional") }, accessFlags := 9, code := some k35c2 }
def k35c3 : Code := { maxStack := 1, maxLocals := 1, code := jdk_32_method_6_code, exceptionTable := #[], attributes := #[] }
def k35m3 : Method := { name := "isPresent", desc := "()Z", sig := { parameters := [], returnType := some .boolean }, accessFlags := 1, code := some k35c3 }
def k35c4 : Code := { maxStack := 1, maxLocals := 2, code := jdk_32_method_15_code, exceptionTable := #[], attributes := #[] }
def k35m4 : Method := { name := "orElse", desc := "(Ljava/lang/Object;)Ljava/lang/Object;", sig := { parameters := [(.object "java/lang/Object")], returnType := some (.object "java/lang/Object") }, accessFlags := 1, code := some k35c4 }
/-- java/util/Optional -/
def k35 : Class := { plain "java/util/Optional" (some 0) with
  accessFlags := 49
  interfaces := #[]
  cf := some (fileOf pool35 2 #[] #[{ accessFlags := 9, nameIndex := 55, descriptorIndex := 56, attributes := #[] }, { accessFlags := 2, nameIndex := 11, descriptorIndex := 25, attributes := #[] }, { accessFlags := 9, nameIndex := 82, descriptorIndex := 65, attributes := #[] }, { accessFlags := 1, nameIndex := 68, descriptorIndex := 46, attributes := #[] }, { accessFlags := 1, nameIndex := 165, descriptorIndex := 22, attributes := #[] }] 49 8 #[] #[{ accessFlags := 26, nameIndex := 5, descriptorIndex := 6, attributes := #[] }, { accessFlags := 18, nameIndex := 15, descriptorIndex := 16, attributes := #[] }])
  fields := #[{ name := "EMPTY", type := (.object "java/util/Optional"), accessFlags := 26, slot := 0, constantValue := 0 }, { name := "value", type := (.object "java/lang/Object"), accessFlags := 18, slot := 0, constantValue := 0 }]
  methods := #[k35m0, k35m1, k35m2, k35m3, k35m4]
  instanceTypes := #[(.object "java/lang/Object")]
  staticTypes := #[(.object "java/util/Optional")]
  resolved := Array.replicate 187 none
  statics := some 5 }

def pool36 : Array CpInfo := pool [(6, .class_ 8), (1, u "java/lang/Object"), (0, u "<init>"), (0, u "()V"), (0, .methodref 12 13), (0, .class_ 14), (0, .nameAndType 15 16), (0, u "java/lang/StringUTF16"), (0, u "newBytesLength"), (0, u "(I)I"), (3, .integer 1073741823), (25, u "$assertionsDisabled"), (0, u "Z"), (13, u "HI_BYTE_SHIFT"), (0, u "I"), (2, u "LO_BYTE_SHIFT"), (43, u "newBytesFor"), (0, u "(I)[B"), (258, .class_ 371), (1, u "java/lang/StringUTF16$LinesSpliterator"), (58, u "MAX_LENGTH"), (196, .class_ 628), (0, u "java/lang/StringUTF16$CodePointsSpliterator"), (0, .class_ 630), (0, u "java/lang/StringUTF16$CharsSpliterator")] 4

def k36m0 : Method := { name := "<init>", desc := "()V", sig := { parameters := [], returnType := none }, accessFlags := 0, code := none }
def k36c1 : Code := { maxStack := 1, maxLocals := 1, code := jdk_52_method_2_code, exceptionTable := #[], attributes := #[] }
def k36m1 : Method := { name := "newBytesFor", desc := "(I)[B", sig := { parameters := [.int], returnType := some (.array .byte) }, accessFlags := 9, code := some k36c1 }
def k36c2 : Code := { maxStack := 4, maxLocals := 1, code := jdk_52_method_3_code, exceptionTable := #[], attributes := #[] }
def k36m2 : Method := { name := "newBytesLength", desc := "(I)I", sig := { parameters := [.int], returnType := some .int }, accessFlags := 9, code := some k36c2 }
/-- java/lang/StringUTF16 -/
def k36 : Class := { plain "java/lang/StringUTF16" (some 0) with
  accessFlags := 48
  interfaces := #[]
  cf := some (fileOf pool36 12 #[.nestMembers #[627, 629, 369]] #[{ accessFlags := 0, nameIndex := 9, descriptorIndex := 10, attributes := #[] }, { accessFlags := 9, nameIndex := 109, descriptorIndex := 110, attributes := #[] }, { accessFlags := 9, nameIndex := 15, descriptorIndex := 16, attributes := #[] }] 48 6 #[] #[{ accessFlags := 26, nameIndex := 61, descriptorIndex := 62, attributes := #[] }, { accessFlags := 26, nameIndex := 65, descriptorIndex := 62, attributes := #[] }, { accessFlags := 24, nameIndex := 430, descriptorIndex := 62, attributes := #[] }, { accessFlags := 4120, nameIndex := 46, descriptorIndex := 47, attributes := #[] }])
  fields := #[{ name := "HI_BYTE_SHIFT", type := .int, accessFlags := 26, slot := 0, constantValue := 0 }, { name := "LO_BYTE_SHIFT", type := .int, accessFlags := 26, slot := 1, constantValue := 0 }, { name := "MAX_LENGTH", type := .int, accessFlags := 24, slot := 2, constantValue := 0 }, { name := "$assertionsDisabled", type := .boolean, accessFlags := 4120, slot := 3, constantValue := 0 }]
  methods := #[k36m0, k36m1, k36m2]
  instanceTypes := #[]
  staticTypes := #[.int, .int, .int, .boolean]
  resolved := Array.replicate 635 none
  statics := none }

def pool37 : Array CpInfo := pool [(2, .class_ 4), (1, u "java/lang/Object"), (0, u "<init>"), (0, u "()V"), (17, .class_ 26), (1, u "jdk/internal/util/Preconditions"), (28, .class_ 56), (0, u "jdk/internal/util/Preconditions$4"), (57, .class_ 115), (0, u "jdk/internal/util/Preconditions$1"), (7, u "SIOOBE_FORMATTER"), (0, u "Ljava/util/function/BiFunction;"), (0, .class_ 126), (0, u "jdk/internal/util/Preconditions$2"), (3, u "AIOOBE_FORMATTER"), (0, .class_ 132), (0, u "jdk/internal/util/Preconditions$3"), (3, u "IOOBE_FORMATTER")] 57

def k37m0 : Method := { name := "<init>", desc := "()V", sig := { parameters := [], returnType := none }, accessFlags := 1, code := none }
/-- jdk/internal/util/Preconditions -/
def k37 : Class := { plain "jdk/internal/util/Preconditions" (some 0) with
  accessFlags := 33
  interfaces := #[]
  cf := some (fileOf pool37 24 #[.nestMembers #[55, 131, 125, 114]] #[{ accessFlags := 1, nameIndex := 5, descriptorIndex := 6, attributes := #[] }] 33 2 #[] #[{ accessFlags := 25, nameIndex := 123, descriptorIndex := 124, attributes := #[] }, { accessFlags := 25, nameIndex := 130, descriptorIndex := 124, attributes := #[] }, { accessFlags := 25, nameIndex := 136, descriptorIndex := 124, attributes := #[] }])
  fields := #[{ name := "SIOOBE_FORMATTER", type := (.object "java/util/function/BiFunction"), accessFlags := 25, slot := 0, constantValue := 0 }, { name := "AIOOBE_FORMATTER", type := (.object "java/util/function/BiFunction"), accessFlags := 25, slot := 1, constantValue := 0 }, { name := "IOOBE_FORMATTER", type := (.object "java/util/function/BiFunction"), accessFlags := 25, slot := 2, constantValue := 0 }]
  methods := #[k37m0]
  instanceTypes := #[]
  staticTypes := #[(.object "java/util/function/BiFunction"), (.object "java/util/function/BiFunction"), (.object "java/util/function/BiFunction")]
  resolved := Array.replicate 194 none
  statics := some 6 }

def pool38 : Array CpInfo := pool [(9, u "<init>"), (6, .class_ 18), (1, u "java/lang/Object"), (0, u "()V"), (1, .class_ 23), (1, u "jdk/internal/util/ArraysSupport"), (0, u "LOG2_ARRAY_LONG_INDEX_SCALE"), (0, u "I"), (2, u "U"), (0, u "Ljdk/internal/misc/Unsafe;"), (8, u "BIG_ENDIAN"), (0, u "Z"), (8, u "LOG2_BYTE_BIT_SIZE"), (4, u "LOG2_ARRAY_INT_INDEX_SCALE"), (54, u "JLA"), (0, u "Ljdk/internal/access/JavaLangAccess;"), (11, u "LOG2_ARRAY_BOOLEAN_INDEX_SCALE"), (9, u "LOG2_ARRAY_BYTE_INDEX_SCALE"), (5, u "LOG2_ARRAY_CHAR_INDEX_SCALE"), (5, u "LOG2_ARRAY_SHORT_INDEX_SCALE"), (18, u "LOG2_ARRAY_FLOAT_INDEX_SCALE"), (24, u "LOG2_ARRAY_DOUBLE_INDEX_SCALE"), (89, u "T_BOOLEAN"), (2, u "T_CHAR"), (1, u "T_FLOAT"), (1, u "T_DOUBLE"), (1, u "T_BYTE"), (1, u "T_SHORT"), (1, u "T_INT"), (1, u "T_LONG"), (1, u "SOFT_MAX_ARRAY_LENGTH")] 83

def k38m0 : Method := { name := "<init>", desc := "()V", sig := { parameters := [], returnType := none }, accessFlags := 2, code := none }
/-- jdk/internal/util/ArraysSupport -/
def k38 : Class := { plain "jdk/internal/util/ArraysSupport" (some 0) with
  accessFlags := 33
  interfaces := #[]
  cf := some (fileOf pool38 21 #[] #[{ accessFlags := 2, nameIndex := 9, descriptorIndex := 19, attributes := #[] }] 33 16 #[] #[{ accessFlags := 24, nameIndex := 28, descriptorIndex := 29, attributes := #[] }, { accessFlags := 26, nameIndex := 38, descriptorIndex := 39, attributes := #[] }, { accessFlags := 25, nameIndex := 121, descriptorIndex := 25, attributes := #[] }, { accessFlags := 25, nameIndex := 131, descriptorIndex := 25, attributes := #[] }, { accessFlags := 25, nameIndex := 137, descriptorIndex := 25, attributes := #[] }, { accessFlags := 25, nameIndex := 143, descriptorIndex := 25, attributes := #[] }, { accessFlags := 25, nameIndex := 53, descriptorIndex := 25, attributes := #[] }, { accessFlags := 25, nameIndex := 24, descriptorIndex := 25, attributes := #[] }, { accessFlags := 25, nameIndex := 162, descriptorIndex := 25, attributes := #[] }, { accessFlags := 25, nameIndex := 187, descriptorIndex := 25, attributes := #[] }, { accessFlags := 26, nameIndex := 48, descriptorIndex := 25, attributes := #[] }, { accessFlags := 25, nameIndex := 277, descriptorIndex := 25, attributes := #[] }, { accessFlags := 25, nameIndex := 280, descriptorIndex := 25, attributes := #[] }, { accessFlags := 25, nameIndex := 282, descriptorIndex := 25, attributes := #[] }, { accessFlags := 25, nameIndex := 284, descriptorIndex := 25, attributes := #[] }, { accessFlags := 25, nameIndex := 286, descriptorIndex := 25, attributes := #[] }, { accessFlags := 25, nameIndex := 288, descriptorIndex := 25, attributes := #[] }, { accessFlags := 25, nameIndex := 290, descriptorIndex := 25, attributes := #[] }, { accessFlags := 25, nameIndex := 292, descriptorIndex := 25, attributes := #[] }, { accessFlags := 26, nameIndex := 108, descriptorIndex := 109, attributes := #[] }, { accessFlags := 25, nameIndex := 294, descriptorIndex := 25, attributes := #[] }])
  fields := #[{ name := "U", type := (.object "jdk/internal/misc/Unsafe"), accessFlags := 24, slot := 0, constantValue := 0 }, { name := "BIG_ENDIAN", type := .boolean, accessFlags := 26, slot := 1, constantValue := 0 }, { name := "LOG2_ARRAY_BOOLEAN_INDEX_SCALE", type := .int, accessFlags := 25, slot := 2, constantValue := 0 }, { name := "LOG2_ARRAY_BYTE_INDEX_SCALE", type := .int, accessFlags := 25, slot := 3, constantValue := 0 }, { name := "LOG2_ARRAY_CHAR_INDEX_SCALE", type := .int, accessFlags := 25, slot := 4, constantValue := 0 }, { name := "LOG2_ARRAY_SHORT_INDEX_SCALE", type := .int, accessFlags := 25, slot := 5, constantValue := 0 }, { name := "LOG2_ARRAY_INT_INDEX_SCALE", type := .int, accessFlags := 25, slot := 6, constantValue := 0 }, { name := "LOG2_ARRAY_LONG_INDEX_SCALE", type := .int, accessFlags := 25, slot := 7, constantValue := 0 }, { name := "LOG2_ARRAY_FLOAT_INDEX_SCALE", type := .int, accessFlags := 25, slot := 8, constantValue := 0 }, { name := "LOG2_ARRAY_DOUBLE_INDEX_SCALE", type := .int, accessFlags := 25, slot := 9, constantValue := 0 }, { name := "LOG2_BYTE_BIT_SIZE", type := .int, accessFlags := 26, slot := 10, constantValue := 0 }, { name := "T_BOOLEAN", type := .int, accessFlags := 25, slot := 11, constantValue := 0 }, { name := "T_CHAR", type := .int, accessFlags := 25, slot := 12, constantValue := 0 }, { name := "T_FLOAT", type := .int, accessFlags := 25, slot := 13, constantValue := 0 }, { name := "T_DOUBLE", type := .int, accessFlags := 25, slot := 14, constantValue := 0 }, { name := "T_BYTE", type := .int, accessFlags := 25, slot := 15, constantValue := 0 }, { name := "T_SHORT", type := .int, accessFlags := 25, slot := 16, constantValue := 0 }, { name := "T_INT", type := .int, accessFlags := 25, slot := 17, constantValue := 0 }, { name := "T_LONG", type := .int, accessFlags := 25, slot := 18, constantValue := 0 }, { name := "JLA", type := (.object "jdk/internal/access/JavaLangAccess"), accessFlags := 26, slot := 19, constantValue := 0 }, { name := "SOFT_MAX_ARRAY_LENGTH", type := .int, accessFlags := 25, slot := 20, constantValue := 0 }]
  methods := #[k38m0]
  instanceTypes := #[]
  staticTypes := #[(.object "jdk/internal/misc/Unsafe"), .boolean, .int, .int, .int, .int, .int, .int, .int, .int, .int, .int, .int, .int, .int, .int, .int, .int, .int, (.object "jdk/internal/access/JavaLangAccess"), .int]
  resolved := Array.replicate 378 none
  statics := none }

def pool39 : Array CpInfo := pool [(1, u "java/lang/Class"), (0, .class_ 1), (0, u "java/lang/Object"), (0, .class_ 3)] 3

/-- java/lang/Class -/
def k39 : Class := { plain "java/lang/Class" (some 0) with
  accessFlags := 49
  interfaces := #[]
  cf := some (fileOf pool39 2 #[] #[] 49 4 #[] #[])
  fields := #[]
  methods := #[]
  instanceTypes := #[]
  staticTypes := #[]
  resolved := Array.replicate 8 none
  statics := none }

/-- the primitive byte -/
def k40 : Class := { plain "byte" none with kind := .primitive 'B', accessFlags := 0x411 }
/-- [B -/
def k41 : Class := { plain "[B" (some 0) with kind := .array 40 .byte, interfaces := #[17, 3], accessFlags := 1041 }

/-- the primitive int -/
def k42 : Class := { plain "int" none with kind := .primitive 'I', accessFlags := 0x411 }
/-- [I -/
def k43 : Class := { plain "[I" (some 0) with kind := .array 42 .int, interfaces := #[17, 3], accessFlags := 1041 }

/-- [Ljava/lang/Object; -/
def k44 : Class := { plain "[Ljava/lang/Object;" (some 0) with kind := .array 0 (.object "java/lang/Object"), interfaces := #[17, 3], accessFlags := 1041, mirror := some 7 }

def heap : Heap := #[{ cls := 8, slots := #[.long 0, .int 1, .null, .int 0, .null, .int 0, .int 0], vm := .statics 8 },
  { cls := 9, slots := #[.ref 11, .int 0, .int 0], vm := .statics 9 },
  { cls := 11, slots := #[.null, .null, .ref 12, .null, .null, .null], vm := .statics 11 },
  { cls := 15, slots := #[.ref 12, .null], vm := .statics 15 },
  { cls := 32, slots := #[.long 0, .int 0, .null, .ref 13, .ref 14, .null, .null, .null, .int 0, .int 1], vm := .statics 32 },
  { cls := 35, slots := #[.ref 15], vm := .statics 35 },
  { cls := 37, slots := #[.null, .null, .null], vm := .statics 37 },
  { cls := 39, slots := #[], vm := .mirror 44 },
  { cls := 44, slots := #[], vm := .none },
  { cls := 41, slots := #[], vm := .none },
  { cls := 29, slots := #[.ref 8, .int 0], vm := .none },
  { cls := 9, slots := #[.ref 10, .ref 9], vm := .none },
  { cls := 15, slots := #[.null, .null, .null], vm := .none },
  { cls := 0, slots := #[], vm := .none },
  { cls := 29, slots := #[.ref 8, .int 0], vm := .none },
  { cls := 35, slots := #[.null], vm := .none }]
def classes : Array Class := #[k0, k1, k2, k3, k4, k5, k6, k7, k8, k9, k10, k11, k12, k13, k14, k15, k16, k17, k18, k19, k20, k21, k22, k23, k24, k25, k26, k27, k28, k29, k30, k31, k32, k33, k34, k35, k36, k37, k38, k39, k40, k41, k42, k43, k44]
def interned : List (Array UInt16 × Addr) := []
def slotsUsed : Nat := 42
def theMethod : MethodId := ⟨1, 1⟩
def args0 : Array Value := #[.long 5, .int 97, .int 0, .long 3]
def aboutOver (below : List Frame) : State where
  vm := { classes := classes, interned := interned.toArray }
  heap := heap
  slotsUsed := slotsUsed
  threads := #[{ frames := .invoking theMethod args0 :: below }]
def below0 : List Frame := [.native { method := ⟨0, 0⟩, args := #[] }]
def about1 : State := aboutOver below0
def p0 : Program := .bare "" "" ""
def e0 : Env := launch0.env 0 0 0
theorem w_frames : about1.frames = Frame.invoking theMethod args0 :: below0 := rfl
set_option maxRecDepth 65536 in
theorem w_args : argsFit about1.vm theMethod args0 = true := by decide +kernel
set_option maxRecDepth 65536 in
theorem w_heap : heapFits about1 = true := by decide +kernel
set_option maxRecDepth 65536 in
theorem w_runnable : about1.curStatus? = some .runnable := by decide +kernel
set_option maxRecDepth 65536 in
theorem w_alone : about1.alone = true := by decide +kernel
set_option maxRecDepth 65536 in
theorem w_named : about1.methodNamed? x = some theMethod := by decide +kernel
set_option maxRecDepth 65536 in
theorem w_hears : about1.hears theMethod below0 = true := by decide +kernel
set_option maxRecDepth 65536 in
theorem w_ripe : about1.ripe theMethod args0 below0 = true := by decide +kernel
theorem w_running : about1.status = .running := rfl
set_option maxRecDepth 65536 in
theorem w_room : about1.hasRoom e0.platform room_1 = true :=
  launch0.hasRoom_least _ room_1 (by decide +kernel) (by decide +kernel) (by decide +kernel) (by decide +kernel) (by decide +kernel) (by decide +kernel)
theorem allAtoms_all (ts : List Jvm.Cond) (a : Array Jvm.Value) (st : Jvm.State) : (allAtoms ts).before a st = ts.all (fun c => c.before a st) := by
  induction ts with
  | nil => rfl
  | cons c t ih =>
    show (Jvm.Cond.and c (allAtoms t)).before a st = _
    rw [Jvm.Cond.before_and, ih, List.all_cons]
def words1 : List Jvm.Cond := Jvm.Cond.code x code maxLocals ret :: tables_1
/-- a 'code' word, met by the world's own term for the bytes: nothing is compared byte by byte -/
theorem code_word {y : MethodName} {bytes : ByteArray} {mx : Nat} {rt : Option FieldType} {a : Array Value} {s : State} {m : MethodId} {meth : Method} {c : Code} (h1 : s.methodNamed? y = some m) (h2 : s.vm.method? m = some meth) (h3 : meth.code = some c) (h4 : c.code = bytes)
    (h5 : (c.maxLocals == mx && c.exceptionTable.isEmpty && decide (c.maxStack ≤ mostOperands) && decide (meth.sig.returnType = rt) && !meth.locks && decide (parseMethodDescriptor y.desc = some meth.sig)) = true) : (Jvm.Cond.code y bytes mx rt).before a s = true := by
  simp only [Bool.and_eq_true, beq_iff_eq, Bool.not_eq_true', decide_eq_true_eq] at h5
  obtain ⟨⟨⟨⟨⟨g1, g2⟩, g3⟩, g4⟩, g5⟩, g6⟩ := h5
  simp [Cond.before, Cond.holds, Cond.value, h1, h2, h3, h4, g1, g2, g3, g4, g5, g6]
def isCode : Jvm.Cond → Bool
  | .code _ _ _ _ => true
  | _ => false
theorem all_split {L : List Jvm.Cond} {P : Jvm.Cond → Bool} (h1 : L.all (fun c => isCode c || P c) = true) (h2 : ∀ c ∈ L.filter isCode, P c = true) : L.all P = true := by
  refine List.all_eq_true.mpr fun c hc => ?_
  have h := List.all_eq_true.mp h1 c hc
  rcases Bool.eq_false_or_eq_true (isCode c) with hi | hi
  · exact h2 c (List.mem_filter.mpr ⟨hc, hi⟩)
  · simpa [hi] using h
set_option maxRecDepth 65536 in
theorem w_c0 : (Jvm.Cond.code x code maxLocals ret).before args0 about1 = true := code_word (m := ⟨1, 1⟩) (meth := k1m1) (c := k1c1) (by decide +kernel) rfl rfl rfl (by decide +kernel)
set_option maxRecDepth 65536 in
theorem w_c1 : (Jvm.Cond.code ({ cls := "com/example/lockstitch/lockstitch/engine/tree/ResourcePath", name := "root", desc := "()Lcom/example/lockstitch/lockstitch/engine/tree/ResourcePath;" } : Jvm.MethodName) prog_24_method_4_code (0 : Nat) (Option.some (Jvm.ClassFile.FieldType.object "com/example/lockstitch/lockstitch/engine/tree/ResourcePath"))).before args0 about1 = true := code_word (m := ⟨9, 1⟩) (meth := k9m1) (c := k9c1) (by decide +kernel) rfl rfl rfl (by decide +kernel)
set_option maxRecDepth 65536 in
theorem w_c2 : (Jvm.Cond.code ({ cls := "java/lang/String", name := "valueOf", desc := "(C)Ljava/lang/String;" } : Jvm.MethodName) jdk_42_method_139_code (1 : Nat) (Option.some (Jvm.ClassFile.FieldType.object "java/lang/String"))).before args0 about1 = true := code_word (m := ⟨8, 8⟩) (meth := k8m8) (c := k8c8) (by decide +kernel) rfl rfl rfl (by decide +kernel)
set_option maxRecDepth 65536 in
theorem w_c3 : (Jvm.Cond.code ({ cls := "java/lang/StringLatin1", name := "canEncode", desc := "(C)Z" } : Jvm.MethodName) jdk_43_method_3_code (1 : Nat) (Option.some Jvm.ClassFile.FieldType.boolean)).before args0 about1 = true := code_word (m := ⟨10, 1⟩) (meth := k10m1) (c := k10c1) (by decide +kernel) rfl rfl rfl (by decide +kernel)
set_option maxRecDepth 65536 in
theorem w_c4 : (Jvm.Cond.code ({ cls := "java/lang/StringLatin1", name := "toBytes", desc := "(C)[B" } : Jvm.MethodName) jdk_43_method_46_code (1 : Nat) (Option.some (Jvm.ClassFile.FieldType.array Jvm.ClassFile.FieldType.byte))).before args0 about1 = true := code_word (m := ⟨10, 6⟩) (meth := k10m6) (c := k10c6) (by decide +kernel) rfl rfl rfl (by decide +kernel)
set_option maxRecDepth 65536 in
theorem w_c5 : (Jvm.Cond.code ({ cls := "java/lang/String", name := "<init>", desc := "([BB)V" } : Jvm.MethodName) jdk_42_method_151_code (3 : Nat) (Option.none : Option Jvm.ClassFile.FieldType)).before args0 about1 = true := code_word (m := ⟨8, 9⟩) (meth := k8m9) (c := k8c9) (by decide +kernel) rfl rfl rfl (by decide +kernel)
set_option maxRecDepth 65536 in
theorem w_c6 : (Jvm.Cond.code ({ cls := "java/lang/Object", name := "<init>", desc := "()V" } : Jvm.MethodName) object_method_1_code (1 : Nat) (Option.none : Option Jvm.ClassFile.FieldType)).before args0 about1 = true := code_word (m := ⟨0, 0⟩) (meth := k0m0) (c := k0c0) (by decide +kernel) rfl rfl rfl (by decide +kernel)
set_option maxRecDepth 65536 in
theorem w_c7 : (Jvm.Cond.code ({ cls := "com/example/lockstitch/lockstitch/engine/tree/ResourcePath", name := "child", desc := "(Ljava/lang/String;)Ljava/util/Optional;" } : Jvm.MethodName) prog_24_method_6_code (5 : Nat) (Option.some (Jvm.ClassFile.FieldType.object "java/util/Optional"))).before args0 about1 = true := code_word (m := ⟨9, 2⟩) (meth := k9m2) (c := k9c2) (by decide +kernel) rfl rfl rfl (by decide +kernel)
set_option maxRecDepth 65536 in
theorem w_c8 : (Jvm.Cond.code ({ cls := "java/lang/String", name := "getBytes", desc := "(Ljava/nio/charset/Charset;)[B" } : Jvm.MethodName) jdk_42_method_64_code (2 : Nat) (Option.some (Jvm.ClassFile.FieldType.array Jvm.ClassFile.FieldType.byte))).before args0 about1 = true := code_word (m := ⟨8, 4⟩) (meth := k8m4) (c := k8c4) (by decide +kernel) rfl rfl rfl (by decide +kernel)
set_option maxRecDepth 65536 in
theorem w_c9 : (Jvm.Cond.code ({ cls := "java/lang/String", name := "coder", desc := "()B" } : Jvm.MethodName) jdk_42_method_152_code (1 : Nat) (Option.some Jvm.ClassFile.FieldType.byte)).before args0 about1 = true := code_word (m := ⟨8, 10⟩) (meth := k8m10) (c := k8c10) (by decide +kernel) rfl rfl rfl (by decide +kernel)
set_option maxRecDepth 65536 in
theorem w_c10 : (Jvm.Cond.code ({ cls := "java/lang/String", name := "encode", desc := "(Ljava/nio/charset/Charset;B[B)[B" } : Jvm.MethodName) jdk_42_method_18_code (3 : Nat) (Option.some (Jvm.ClassFile.FieldType.array Jvm.ClassFile.FieldType.byte))).before args0 about1 = true := code_word (m := ⟨8, 1⟩) (meth := k8m1) (c := k8c1) (by decide +kernel) rfl rfl rfl (by decide +kernel)
set_option maxRecDepth 65536 in
theorem w_c11 : (Jvm.Cond.code ({ cls := "java/lang/String", name := "encodeUTF8", desc := "(B[BZ)[B" } : Jvm.MethodName) jdk_42_method_46_code (9 : Nat) (Option.some (Jvm.ClassFile.FieldType.array Jvm.ClassFile.FieldType.byte))).before args0 about1 = true := code_word (m := ⟨8, 2⟩) (meth := k8m2) (c := k8c2) (by decide +kernel) rfl rfl rfl (by decide +kernel)
set_option maxRecDepth 65536 in
theorem w_c12 : (Jvm.Cond.code ({ cls := "java/lang/StringCoding", name := "hasNegatives", desc := "([BII)Z" } : Jvm.MethodName) jdk_123_method_2_code (3 : Nat) (Option.some Jvm.ClassFile.FieldType.boolean)).before args0 about1 = true := code_word (m := ⟨16, 1⟩) (meth := k16m1) (c := k16c1) (by decide +kernel) rfl rfl rfl (by decide +kernel)
set_option maxRecDepth 65536 in
theorem w_c13 : (Jvm.Cond.code ({ cls := "java/lang/StringCoding", name := "countPositives", desc := "([BII)I" } : Jvm.MethodName) jdk_123_method_3_code (5 : Nat) (Option.some Jvm.ClassFile.FieldType.int)).before args0 about1 = true := code_word (m := ⟨16, 2⟩) (meth := k16m2) (c := k16c2) (by decide +kernel) rfl rfl rfl (by decide +kernel)
set_option maxRecDepth 65536 in
theorem w_c14 : (Jvm.Cond.code ({ cls := "com/example/lockstitch/lockstitch/engine/tree/ResourcePath", name := "isResourceName", desc := "(Ljava/lang/String;I)Z" } : Jvm.MethodName) prog_24_method_8_code (4 : Nat) (Option.some Jvm.ClassFile.FieldType.boolean)).before args0 about1 = true := code_word (m := ⟨9, 3⟩) (meth := k9m3) (c := k9c3) (by decide +kernel) rfl rfl rfl (by decide +kernel)
set_option maxRecDepth 65536 in
theorem w_c15 : (Jvm.Cond.code ({ cls := "java/lang/String", name := "equals", desc := "(Ljava/lang/Object;)Z" } : Jvm.MethodName) jdk_42_method_66_code (3 : Nat) (Option.some Jvm.ClassFile.FieldType.boolean)).before args0 about1 = true := code_word (m := ⟨8, 5⟩) (meth := k8m5) (c := k8c5) (by decide +kernel) rfl rfl rfl (by decide +kernel)
set_option maxRecDepth 65536 in
theorem w_c16 : (Jvm.Cond.code ({ cls := "java/lang/StringLatin1", name := "equals", desc := "([B[B)Z" } : Jvm.MethodName) jdk_43_method_13_code (3 : Nat) (Option.some Jvm.ClassFile.FieldType.boolean)).before args0 about1 = true := code_word (m := ⟨10, 3⟩) (meth := k10m3) (c := k10c3) (by decide +kernel) rfl rfl rfl (by decide +kernel)
set_option maxRecDepth 65536 in
theorem w_c17 : (Jvm.Cond.code ({ cls := "java/lang/String", name := "indexOf", desc := "(I)I" } : Jvm.MethodName) jdk_42_method_79_code (2 : Nat) (Option.some Jvm.ClassFile.FieldType.int)).before args0 about1 = true := code_word (m := ⟨8, 6⟩) (meth := k8m6) (c := k8c6) (by decide +kernel) rfl rfl rfl (by decide +kernel)
set_option maxRecDepth 65536 in
theorem w_c18 : (Jvm.Cond.code ({ cls := "java/lang/String", name := "indexOf", desc := "(II)I" } : Jvm.MethodName) jdk_42_method_80_code (3 : Nat) (Option.some Jvm.ClassFile.FieldType.int)).before args0 about1 = true := code_word (m := ⟨8, 7⟩) (meth := k8m7) (c := k8c7) (by decide +kernel) rfl rfl rfl (by decide +kernel)
set_option maxRecDepth 65536 in
theorem w_c19 : (Jvm.Cond.code ({ cls := "java/lang/String", name := "isLatin1", desc := "()Z" } : Jvm.MethodName) jdk_42_method_154_code (1 : Nat) (Option.some Jvm.ClassFile.FieldType.boolean)).before args0 about1 = true := code_word (m := ⟨8, 11⟩) (meth := k8m11) (c := k8c11) (by decide +kernel) rfl rfl rfl (by decide +kernel)
set_option maxRecDepth 65536 in
theorem w_c20 : (Jvm.Cond.code ({ cls := "java/lang/String", name := "length", desc := "()I" } : Jvm.MethodName) jdk_42_method_54_code (1 : Nat) (Option.some Jvm.ClassFile.FieldType.int)).before args0 about1 = true := code_word (m := ⟨8, 3⟩) (meth := k8m3) (c := k8c3) (by decide +kernel) rfl rfl rfl (by decide +kernel)
set_option maxRecDepth 65536 in
theorem w_c21 : (Jvm.Cond.code ({ cls := "java/lang/StringLatin1", name := "indexOf", desc := "([BIII)I" } : Jvm.MethodName) jdk_43_method_22_code (4 : Nat) (Option.some Jvm.ClassFile.FieldType.int)).before args0 about1 = true := code_word (m := ⟨10, 4⟩) (meth := k10m4) (c := k10c4) (by decide +kernel) rfl rfl rfl (by decide +kernel)
set_option maxRecDepth 65536 in
theorem w_c22 : (Jvm.Cond.code ({ cls := "java/lang/StringLatin1", name := "canEncode", desc := "(I)Z" } : Jvm.MethodName) jdk_43_method_4_code (1 : Nat) (Option.some Jvm.ClassFile.FieldType.boolean)).before args0 about1 = true := code_word (m := ⟨10, 2⟩) (meth := k10m2) (c := k10c2) (by decide +kernel) rfl rfl rfl (by decide +kernel)
set_option maxRecDepth 65536 in
theorem w_c23 : (Jvm.Cond.code ({ cls := "java/lang/Math", name := "max", desc := "(II)I" } : Jvm.MethodName) jdk_29_method_65_code (2 : Nat) (Option.some Jvm.ClassFile.FieldType.int)).before args0 about1 = true := code_word (m := ⟨18, 1⟩) (meth := k18m1) (c := k18c1) (by decide +kernel) rfl rfl rfl (by decide +kernel)
set_option maxRecDepth 65536 in
theorem w_c24 : (Jvm.Cond.code ({ cls := "java/lang/Math", name := "min", desc := "(II)I" } : Jvm.MethodName) jdk_29_method_69_code (2 : Nat) (Option.some Jvm.ClassFile.FieldType.int)).before args0 about1 = true := code_word (m := ⟨18, 2⟩) (meth := k18m2) (c := k18c2) (by decide +kernel) rfl rfl rfl (by decide +kernel)
set_option maxRecDepth 65536 in
theorem w_c25 : (Jvm.Cond.code ({ cls := "java/lang/StringLatin1", name := "indexOfChar", desc := "([BIII)I" } : Jvm.MethodName) jdk_43_method_23_code (6 : Nat) (Option.some Jvm.ClassFile.FieldType.int)).before args0 about1 = true := code_word (m := ⟨10, 5⟩) (meth := k10m5) (c := k10c5) (by decide +kernel) rfl rfl rfl (by decide +kernel)
set_option maxRecDepth 65536 in
theorem w_c26 : (Jvm.Cond.code ({ cls := "java/util/ImmutableCollections$ListN", name := "size", desc := "()I" } : Jvm.MethodName) jdk_45_method_3_code (1 : Nat) (Option.some Jvm.ClassFile.FieldType.int)).before args0 about1 = true := code_word (m := ⟨29, 0⟩) (meth := k29m0) (c := k29c0) (by decide +kernel) rfl rfl rfl (by decide +kernel)
set_option maxRecDepth 65536 in
theorem w_c27 : (Jvm.Cond.code ({ cls := "java/util/ArrayList", name := "<init>", desc := "(I)V" } : Jvm.MethodName) jdk_38_method_1_code (2 : Nat) (Option.none : Option Jvm.ClassFile.FieldType)).before args0 about1 = true := code_word (m := ⟨26, 0⟩) (meth := k26m0) (c := k26c0) (by decide +kernel) rfl rfl rfl (by decide +kernel)
set_option maxRecDepth 65536 in
theorem w_c28 : (Jvm.Cond.code ({ cls := "java/util/AbstractList", name := "<init>", desc := "()V" } : Jvm.MethodName) jdk_39_method_1_code (1 : Nat) (Option.none : Option Jvm.ClassFile.FieldType)).before args0 about1 = true := code_word (m := ⟨24, 0⟩) (meth := k24m0) (c := k24c0) (by decide +kernel) rfl rfl rfl (by decide +kernel)
set_option maxRecDepth 65536 in
theorem w_c29 : (Jvm.Cond.code ({ cls := "java/util/AbstractCollection", name := "<init>", desc := "()V" } : Jvm.MethodName) jdk_22_method_1_code (1 : Nat) (Option.none : Option Jvm.ClassFile.FieldType)).before args0 about1 = true := code_word (m := ⟨21, 0⟩) (meth := k21m0) (c := k21c0) (by decide +kernel) rfl rfl rfl (by decide +kernel)
set_option maxRecDepth 65536 in
theorem w_c30 : (Jvm.Cond.code ({ cls := "java/util/ArrayList", name := "addAll", desc := "(Ljava/util/Collection;)Z" } : Jvm.MethodName) jdk_38_method_41_code (6 : Nat) (Option.some Jvm.ClassFile.FieldType.boolean)).before args0 about1 = true := code_word (m := ⟨26, 6⟩) (meth := k26m6) (c := k26c6) (by decide +kernel) rfl rfl rfl (by decide +kernel)
set_option maxRecDepth 65536 in
theorem w_c31 : (Jvm.Cond.code ({ cls := "java/util/ImmutableCollections$ListN", name := "toArray", desc := "()[Ljava/lang/Object;" } : Jvm.MethodName) jdk_45_method_7_code (1 : Nat) (Option.some (Jvm.ClassFile.FieldType.array (Jvm.ClassFile.FieldType.object "java/lang/Object")))).before args0 about1 = true := code_word (m := ⟨29, 1⟩) (meth := k29m1) (c := k29c1) (by decide +kernel) rfl rfl rfl (by decide +kernel)
set_option maxRecDepth 65536 in
theorem w_c32 : (Jvm.Cond.code ({ cls := "java/util/Arrays", name := "copyOf", desc := "([Ljava/lang/Object;I)[Ljava/lang/Object;" } : Jvm.MethodName) jdk_65_method_119_code (2 : Nat) (Option.some (Jvm.ClassFile.FieldType.array (Jvm.ClassFile.FieldType.object "java/lang/Object")))).before args0 about1 = true := code_word (m := ⟨30, 1⟩) (meth := k30m1) (c := k30c1) (by decide +kernel) rfl rfl rfl (by decide +kernel)
set_option maxRecDepth 65536 in
theorem w_c33 : (Jvm.Cond.code ({ cls := "java/util/Arrays", name := "copyOf", desc := "([Ljava/lang/Object;ILjava/lang/Class;)[Ljava/lang/Object;" } : Jvm.MethodName) jdk_65_method_120_code (4 : Nat) (Option.some (Jvm.ClassFile.FieldType.array (Jvm.ClassFile.FieldType.object "java/lang/Object")))).before args0 about1 = true := code_word (m := ⟨30, 2⟩) (meth := k30m2) (c := k30c2) (by decide +kernel) rfl rfl rfl (by decide +kernel)
set_option maxRecDepth 65536 in
theorem w_c34 : (Jvm.Cond.code ({ cls := "java/util/ArrayList", name := "add", desc := "(Ljava/lang/Object;)Z" } : Jvm.MethodName) jdk_38_method_25_code (2 : Nat) (Option.some Jvm.ClassFile.FieldType.boolean)).before args0 about1 = true := code_word (m := ⟨26, 5⟩) (meth := k26m5) (c := k26c5) (by decide +kernel) rfl rfl rfl (by decide +kernel)
set_option maxRecDepth 65536 in
theorem w_c35 : (Jvm.Cond.code ({ cls := "java/util/ArrayList", name := "add", desc := "(Ljava/lang/Object;[Ljava/lang/Object;I)V" } : Jvm.MethodName) jdk_38_method_24_code (4 : Nat) (Option.none : Option Jvm.ClassFile.FieldType)).before args0 about1 = true := code_word (m := ⟨26, 4⟩) (meth := k26m4) (c := k26c4) (by decide +kernel) rfl rfl rfl (by decide +kernel)
set_option maxRecDepth 65536 in
theorem w_c36 : (Jvm.Cond.code ({ cls := "java/util/Arrays", name := "copyOf", desc := "([BI)[B" } : Jvm.MethodName) jdk_65_method_121_code (3 : Nat) (Option.some (Jvm.ClassFile.FieldType.array Jvm.ClassFile.FieldType.byte))).before args0 about1 = true := code_word (m := ⟨30, 3⟩) (meth := k30m3) (c := k30c3) (by decide +kernel) rfl rfl rfl (by decide +kernel)
set_option maxRecDepth 65536 in
theorem w_c37 : (Jvm.Cond.code ({ cls := "java/util/List", name := "copyOf", desc := "(Ljava/util/Collection;)Ljava/util/List;" } : Jvm.MethodName) jdk_40_method_48_code (1 : Nat) (Option.some (Jvm.ClassFile.FieldType.object "java/util/List"))).before args0 about1 = true := code_word (m := ⟨23, 4⟩) (meth := k23m4) (c := k23c4) (by decide +kernel) rfl rfl rfl (by decide +kernel)
set_option maxRecDepth 65536 in
theorem w_c38 : (Jvm.Cond.code ({ cls := "java/util/ImmutableCollections", name := "listCopy", desc := "(Ljava/util/Collection;)Ljava/util/List;" } : Jvm.MethodName) jdk_56_method_3_code (2 : Nat) (Option.some (Jvm.ClassFile.FieldType.object "java/util/List"))).before args0 about1 = true := code_word (m := ⟨32, 1⟩) (meth := k32m1) (c := k32c1) (by decide +kernel) rfl rfl rfl (by decide +kernel)
set_option maxRecDepth 65536 in
theorem w_c39 : (Jvm.Cond.code ({ cls := "java/util/ArrayList", name := "isEmpty", desc := "()Z" } : Jvm.MethodName) jdk_38_method_9_code (1 : Nat) (Option.some Jvm.ClassFile.FieldType.boolean)).before args0 about1 = true := code_word (m := ⟨26, 2⟩) (meth := k26m2) (c := k26c2) (by decide +kernel) rfl rfl rfl (by decide +kernel)
set_option maxRecDepth 65536 in
theorem w_c40 : (Jvm.Cond.code ({ cls := "java/util/ArrayList", name := "toArray", desc := "()[Ljava/lang/Object;" } : Jvm.MethodName) jdk_38_method_16_code (1 : Nat) (Option.some (Jvm.ClassFile.FieldType.array (Jvm.ClassFile.FieldType.object "java/lang/Object")))).before args0 about1 = true := code_word (m := ⟨26, 3⟩) (meth := k26m3) (c := k26c3) (by decide +kernel) rfl rfl rfl (by decide +kernel)
set_option maxRecDepth 65536 in
theorem w_c41 : (Jvm.Cond.code ({ cls := "java/util/List", name := "of", desc := "([Ljava/lang/Object;)Ljava/util/List;" } : Jvm.MethodName) jdk_40_method_47_code (2 : Nat) (Option.some (Jvm.ClassFile.FieldType.object "java/util/List"))).before args0 about1 = true := code_word (m := ⟨23, 3⟩) (meth := k23m3) (c := k23c3) (by decide +kernel) rfl rfl rfl (by decide +kernel)
set_option maxRecDepth 65536 in
theorem w_c42 : (Jvm.Cond.code ({ cls := "java/util/ImmutableCollections$List12", name := "<init>", desc := "(Ljava/lang/Object;)V" } : Jvm.MethodName) jdk_44_method_1_code (2 : Nat) (Option.none : Option Jvm.ClassFile.FieldType)).before args0 about1 = true := code_word (m := ⟨33, 0⟩) (meth := k33m0) (c := k33c0) (by decide +kernel) rfl rfl rfl (by decide +kernel)
set_option maxRecDepth 65536 in
theorem w_c43 : (Jvm.Cond.code ({ cls := "java/util/ImmutableCollections$AbstractImmutableList", name := "<init>", desc := "()V" } : Jvm.MethodName) jdk_46_method_1_code (1 : Nat) (Option.none : Option Jvm.ClassFile.FieldType)).before args0 about1 = true := code_word (m := ⟨28, 0⟩) (meth := k28m0) (c := k28c0) (by decide +kernel) rfl rfl rfl (by decide +kernel)
set_option maxRecDepth 65536 in
theorem w_c44 : (Jvm.Cond.code ({ cls := "java/util/ImmutableCollections$AbstractImmutableCollection", name := "<init>", desc := "()V" } : Jvm.MethodName) jdk_47_method_1_code (1 : Nat) (Option.none : Option Jvm.ClassFile.FieldType)).before args0 about1 = true := code_word (m := ⟨27, 0⟩) (meth := k27m0) (c := k27c0) (by decide +kernel) rfl rfl rfl (by decide +kernel)
set_option maxRecDepth 65536 in
theorem w_c45 : (Jvm.Cond.code ({ cls := "java/util/Objects", name := "requireNonNull", desc := "(Ljava/lang/Object;)Ljava/lang/Object;" } : Jvm.MethodName) jdk_31_method_10_code (1 : Nat) (Option.some (Jvm.ClassFile.FieldType.object "java/lang/Object"))).before args0 about1 = true := code_word (m := ⟨34, 1⟩) (meth := k34m1) (c := k34c1) (by decide +kernel) rfl rfl rfl (by decide +kernel)
set_option maxRecDepth 65536 in
theorem w_c46 : (Jvm.Cond.code ({ cls := "com/example/lockstitch/lockstitch/engine/tree/ResourcePath", name := "<init>", desc := "(Ljava/util/List;[B)V" } : Jvm.MethodName) prog_24_method_2_code (3 : Nat) (Option.none : Option Jvm.ClassFile.FieldType)).before args0 about1 = true := code_word (m := ⟨9, 0⟩) (meth := k9m0) (c := k9c0) (by decide +kernel) rfl rfl rfl (by decide +kernel)
set_option maxRecDepth 65536 in
theorem w_c47 : (Jvm.Cond.code ({ cls := "java/util/Optional", name := "of", desc := "(Ljava/lang/Object;)Ljava/util/Optional;" } : Jvm.MethodName) jdk_32_method_3_code (1 : Nat) (Option.some (Jvm.ClassFile.FieldType.object "java/util/Optional"))).before args0 about1 = true := code_word (m := ⟨35, 2⟩) (meth := k35m2) (c := k35c2) (by decide +kernel) rfl rfl rfl (by decide +kernel)
set_option maxRecDepth 65536 in
theorem w_c48 : (Jvm.Cond.code ({ cls := "java/util/Optional", name := "<init>", desc := "(Ljava/lang/Object;)V" } : Jvm.MethodName) jdk_32_method_2_code (2 : Nat) (Option.none : Option Jvm.ClassFile.FieldType)).before args0 about1 = true := code_word (m := ⟨35, 1⟩) (meth := k35m1) (c := k35c1) (by decide +kernel) rfl rfl rfl (by decide +kernel)
set_option maxRecDepth 65536 in
theorem w_c49 : (Jvm.Cond.code ({ cls := "com/example/lockstitch/lockstitch/engine/tree/SyncToken", name := "<init>", desc := "(Ljava/lang/String;Ljava/lang/String;JLjava/util/Optional;ZJ)V" } : Jvm.MethodName) prog_27_method_2_code (9 : Nat) (Option.none : Option Jvm.ClassFile.FieldType)).before args0 about1 = true := code_word (m := ⟨2, 0⟩) (meth := k2m0) (c := k2c0) (by decide +kernel) rfl rfl rfl (by decide +kernel)
set_option maxRecDepth 65536 in
theorem w_c50 : (Jvm.Cond.code ({ cls := "java/util/Optional", name := "orElse", desc := "(Ljava/lang/Object;)Ljava/lang/Object;" } : Jvm.MethodName) jdk_32_method_15_code (2 : Nat) (Option.some (Jvm.ClassFile.FieldType.object "java/lang/Object"))).before args0 about1 = true := code_word (m := ⟨35, 4⟩) (meth := k35m4) (c := k35c4) (by decide +kernel) rfl rfl rfl (by decide +kernel)
set_option maxRecDepth 65536 in
theorem w_c51 : (Jvm.Cond.code ({ cls := "java/util/Optional", name := "isPresent", desc := "()Z" } : Jvm.MethodName) jdk_32_method_6_code (1 : Nat) (Option.some Jvm.ClassFile.FieldType.boolean)).before args0 about1 = true := code_word (m := ⟨35, 3⟩) (meth := k35m3) (c := k35c3) (by decide +kernel) rfl rfl rfl (by decide +kernel)
set_option maxRecDepth 65536 in
theorem w_c52 : (Jvm.Cond.code ({ cls := "com/example/lockstitch/lockstitch/engine/tree/SyncToken", name := "wholeUpTo", desc := "()J" } : Jvm.MethodName) prog_27_method_9_code (1 : Nat) (Option.some Jvm.ClassFile.FieldType.long)).before args0 about1 = true := code_word (m := ⟨2, 1⟩) (meth := k2m1) (c := k2c1) (by decide +kernel) rfl rfl rfl (by decide +kernel)
set_option maxRecDepth 65536 in
theorem w_c53 : (Jvm.Cond.code ({ cls := "java/lang/Math", name := "min", desc := "(JJ)J" } : Jvm.MethodName) jdk_29_method_70_code (4 : Nat) (Option.some Jvm.ClassFile.FieldType.long)).before args0 about1 = true := code_word (m := ⟨18, 3⟩) (meth := k18m3) (c := k18c3) (by decide +kernel) rfl rfl rfl (by decide +kernel)
set_option maxRecDepth 65536 in
theorem w_c54 : (Jvm.Cond.code ({ cls := "com/example/lockstitch/lockstitch/engine/tree/SyncToken", name := "begun", desc := "()J" } : Jvm.MethodName) prog_27_method_12_code (1 : Nat) (Option.some Jvm.ClassFile.FieldType.long)).before args0 about1 = true := code_word (m := ⟨2, 2⟩) (meth := k2m2) (c := k2c2) (by decide +kernel) rfl rfl rfl (by decide +kernel)
set_option maxRecDepth 65536 in
theorem w_c55 : (Jvm.Cond.code ({ cls := "java/lang/StringUTF16", name := "newBytesFor", desc := "(I)[B" } : Jvm.MethodName) jdk_52_method_2_code (1 : Nat) (Option.some (Jvm.ClassFile.FieldType.array Jvm.ClassFile.FieldType.byte))).before args0 about1 = true := code_word (m := ⟨36, 1⟩) (meth := k36m1) (c := k36c1) (by decide +kernel) rfl rfl rfl (by decide +kernel)
set_option maxRecDepth 65536 in
theorem w_c56 : (Jvm.Cond.code ({ cls := "java/lang/StringUTF16", name := "newBytesLength", desc := "(I)I" } : Jvm.MethodName) jdk_52_method_3_code (1 : Nat) (Option.some Jvm.ClassFile.FieldType.int)).before args0 about1 = true := code_word (m := ⟨36, 2⟩) (meth := k36m2) (c := k36c2) (by decide +kernel) rfl rfl rfl (by decide +kernel)
set_option maxRecDepth 65536 in
theorem w_c57 : (Jvm.Cond.code ({ cls := "java/util/Optional", name := "empty", desc := "()Ljava/util/Optional;" } : Jvm.MethodName) jdk_32_method_1_code (1 : Nat) (Option.some (Jvm.ClassFile.FieldType.object "java/util/Optional"))).before args0 about1 = true := code_word (m := ⟨35, 0⟩) (meth := k35m0) (c := k35c0) (by decide +kernel) rfl rfl rfl (by decide +kernel)
def codes1 : List Jvm.Cond := [Jvm.Cond.code x code maxLocals ret, Jvm.Cond.code ({ cls := "com/example/lockstitch/lockstitch/engine/tree/ResourcePath", name := "root", desc := "()Lcom/example/lockstitch/lockstitch/engine/tree/ResourcePath;" } : Jvm.MethodName) prog_24_method_4_code (0 : Nat) (Option.some (Jvm.ClassFile.FieldType.object "com/example/lockstitch/lockstitch/engine/tree/ResourcePath")), Jvm.Cond.code ({ cls := "java/lang/String", name := "valueOf", desc := "(C)Ljava/lang/String;" } : Jvm.MethodName) jdk_42_method_139_code (1 : Nat) (Option.some (Jvm.ClassFile.FieldType.object "java/lang/String")), Jvm.Cond.code ({ cls := "java/lang/StringLatin1", name := "canEncode", desc := "(C)Z" } : Jvm.MethodName) jdk_43_method_3_code (1 : Nat) (Option.some Jvm.ClassFile.FieldType.boolean), Jvm.Cond.code ({ cls := "java/lang/StringLatin1", name := "toBytes", desc := "(C)[B" } : Jvm.MethodName) jdk_43_method_46_code (1 : Nat) (Option.some (Jvm.ClassFile.FieldType.array Jvm.ClassFile.FieldType.byte)), Jvm.Cond.code ({ cls := "java/lang/String", name := "<init>", desc := "([BB)V" } : Jvm.MethodName) jdk_42_method_151_code (3 : Nat) (Option.none : Option Jvm.ClassFile.FieldType), Jvm.Cond.code ({ cls := "java/lang/Object", name := "<init>", desc := "()V" } : Jvm.MethodName) object_method_1_code (1 : Nat) (Option.none : Option Jvm.ClassFile.FieldType), Jvm.Cond.code ({ cls := "com/example/lockstitch/lockstitch/engine/tree/ResourcePath", name := "child", desc := "(Ljava/lang/String;)Ljava/util/Optional;" } : Jvm.MethodName) prog_24_method_6_code (5 : Nat) (Option.some (Jvm.ClassFile.FieldType.object "java/util/Optional")), Jvm.Cond.code ({ cls := "java/lang/String", name := "getBytes", desc := "(Ljava/nio/charset/Charset;)[B" } : Jvm.MethodName) jdk_42_method_64_code (2 : Nat) (Option.some (Jvm.ClassFile.FieldType.array Jvm.ClassFile.FieldType.byte)), Jvm.Cond.code ({ cls := "java/lang/String", name := "coder", desc := "()B" } : Jvm.MethodName) jdk_42_method_152_code (1 : Nat) (Option.some Jvm.ClassFile.FieldType.byte), Jvm.Cond.code ({ cls := "java/lang/String", name := "encode", desc := "(Ljava/nio/charset/Charset;B[B)[B" } : Jvm.MethodName) jdk_42_method_18_code (3 : Nat) (Option.some (Jvm.ClassFile.FieldType.array Jvm.ClassFile.FieldType.byte)), Jvm.Cond.code ({ cls := "java/lang/String", name := "encodeUTF8", desc := "(B[BZ)[B" } : Jvm.MethodName) jdk_42_method_46_code (9 : Nat) (Option.some (Jvm.ClassFile.FieldType.array Jvm.ClassFile.FieldType.byte)), Jvm.Cond.code ({ cls := "java/lang/StringCoding", name := "hasNegatives", desc := "([BII)Z" } : Jvm.MethodName) jdk_123_method_2_code (3 : Nat) (Option.some Jvm.ClassFile.FieldType.boolean), Jvm.Cond.code ({ cls := "java/lang/StringCoding", name := "countPositives", desc := "([BII)I" } : Jvm.MethodName) jdk_123_method_3_code (5 : Nat) (Option.some Jvm.ClassFile.FieldType.int), Jvm.Cond.code ({ cls := "com/example/lockstitch/lockstitch/engine/tree/ResourcePath", name := "isResourceName", desc := "(Ljava/lang/String;I)Z" } : Jvm.MethodName) prog_24_method_8_code (4 : Nat) (Option.some Jvm.ClassFile.FieldType.boolean), Jvm.Cond.code ({ cls := "java/lang/String", name := "equals", desc := "(Ljava/lang/Object;)Z" } : Jvm.MethodName) jdk_42_method_66_code (3 : Nat) (Option.some Jvm.ClassFile.FieldType.boolean), Jvm.Cond.code ({ cls := "java/lang/StringLatin1", name := "equals", desc := "([B[B)Z" } : Jvm.MethodName) jdk_43_method_13_code (3 : Nat) (Option.some Jvm.ClassFile.FieldType.boolean), Jvm.Cond.code ({ cls := "java/lang/String", name := "indexOf", desc := "(I)I" } : Jvm.MethodName) jdk_42_method_79_code (2 : Nat) (Option.some Jvm.ClassFile.FieldType.int), Jvm.Cond.code ({ cls := "java/lang/String", name := "indexOf", desc := "(II)I" } : Jvm.MethodName) jdk_42_method_80_code (3 : Nat) (Option.some Jvm.ClassFile.FieldType.int), Jvm.Cond.code ({ cls := "java/lang/String", name := "isLatin1", desc := "()Z" } : Jvm.MethodName) jdk_42_method_154_code (1 : Nat) (Option.some Jvm.ClassFile.FieldType.boolean), Jvm.Cond.code ({ cls := "java/lang/String", name := "length", desc := "()I" } : Jvm.MethodName) jdk_42_method_54_code (1 : Nat) (Option.some Jvm.ClassFile.FieldType.int), Jvm.Cond.code ({ cls := "java/lang/StringLatin1", name := "indexOf", desc := "([BIII)I" } : Jvm.MethodName) jdk_43_method_22_code (4 : Nat) (Option.some Jvm.ClassFile.FieldType.int), Jvm.Cond.code ({ cls := "java/lang/StringLatin1", name := "canEncode", desc := "(I)Z" } : Jvm.MethodName) jdk_43_method_4_code (1 : Nat) (Option.some Jvm.ClassFile.FieldType.boolean), Jvm.Cond.code ({ cls := "java/lang/Math", name := "max", desc := "(II)I" } : Jvm.MethodName) jdk_29_method_65_code (2 : Nat) (Option.some Jvm.ClassFile.FieldType.int), Jvm.Cond.code ({ cls := "java/lang/Math", name := "min", desc := "(II)I" } : Jvm.MethodName) jdk_29_method_69_code (2 : Nat) (Option.some Jvm.ClassFile.FieldType.int), Jvm.Cond.code ({ cls := "java/lang/StringLatin1", name := "indexOfChar", desc := "([BIII)I" } : Jvm.MethodName) jdk_43_method_23_code (6 : Nat) (Option.some Jvm.ClassFile.FieldType.int), Jvm.Cond.code ({ cls := "java/util/ImmutableCollections$ListN", name := "size", desc := "()I" } : Jvm.MethodName) jdk_45_method_3_code (1 : Nat) (Option.some Jvm.ClassFile.FieldType.int), Jvm.Cond.code ({ cls := "java/util/ArrayList", name := "<init>", desc := "(I)V" } : Jvm.MethodName) jdk_38_method_1_code (2 : Nat) (Option.none : Option Jvm.ClassFile.FieldType), Jvm.Cond.code ({ cls := "java/util/AbstractList", name := "<init>", desc := "()V" } : Jvm.MethodName) jdk_39_method_1_code (1 : Nat) (Option.none : Option Jvm.ClassFile.FieldType), Jvm.Cond.code ({ cls := "java/util/AbstractCollection", name := "<init>", desc := "()V" } : Jvm.MethodName) jdk_22_method_1_code (1 : Nat) (Option.none : Option Jvm.ClassFile.FieldType), Jvm.Cond.code ({ cls := "java/util/ArrayList", name := "addAll", desc := "(Ljava/util/Collection;)Z" } : Jvm.MethodName) jdk_38_method_41_code (6 : Nat) (Option.some Jvm.ClassFile.FieldType.boolean), Jvm.Cond.code ({ cls := "java/util/ImmutableCollections$ListN", name := "toArray", desc := "()[Ljava/lang/Object;" } : Jvm.MethodName) jdk_45_method_7_code (1 : Nat) (Option.some (Jvm.ClassFile.FieldType.array (Jvm.ClassFile.FieldType.object "java/lang/Object"))), Jvm.Cond.code ({ cls := "java/util/Arrays", name := "copyOf", desc := "([Ljava/lang/Object;I)[Ljava/lang/Object;" } : Jvm.MethodName) jdk_65_method_119_code (2 : Nat) (Option.some (Jvm.ClassFile.FieldType.array (Jvm.ClassFile.FieldType.object "java/lang/Object"))), Jvm.Cond.code ({ cls := "java/util/Arrays", name := "copyOf", desc := "([Ljava/lang/Object;ILjava/lang/Class;)[Ljava/lang/Object;" } : Jvm.MethodName) jdk_65_method_120_code (4 : Nat) (Option.some (Jvm.ClassFile.FieldType.array (Jvm.ClassFile.FieldType.object "java/lang/Object"))), Jvm.Cond.code ({ cls := "java/util/ArrayList", name := "add", desc := "(Ljava/lang/Object;)Z" } : Jvm.MethodName) jdk_38_method_25_code (2 : Nat) (Option.some Jvm.ClassFile.FieldType.boolean), Jvm.Cond.code ({ cls := "java/util/ArrayList", name := "add", desc := "(Ljava/lang/Object;[Ljava/lang/Object;I)V" } : Jvm.MethodName) jdk_38_method_24_code (4 : Nat) (Option.none : Option Jvm.ClassFile.FieldType), Jvm.Cond.code ({ cls := "java/util/Arrays", name := "copyOf", desc := "([BI)[B" } : Jvm.MethodName) jdk_65_method_121_code (3 : Nat) (Option.some (Jvm.ClassFile.FieldType.array Jvm.ClassFile.FieldType.byte)), Jvm.Cond.code ({ cls := "java/util/List", name := "copyOf", desc := "(Ljava/util/Collection;)Ljava/util/List;" } : Jvm.MethodName) jdk_40_method_48_code (1 : Nat) (Option.some (Jvm.ClassFile.FieldType.object "java/util/List")), Jvm.Cond.code ({ cls := "java/util/ImmutableCollections", name := "listCopy", desc := "(Ljava/util/Collection;)Ljava/util/List;" } : Jvm.MethodName) jdk_56_method_3_code (2 : Nat) (Option.some (Jvm.ClassFile.FieldType.object "java/util/List")), Jvm.Cond.code ({ cls := "java/util/ArrayList", name := "isEmpty", desc := "()Z" } : Jvm.MethodName) jdk_38_method_9_code (1 : Nat) (Option.some Jvm.ClassFile.FieldType.boolean), Jvm.Cond.code ({ cls := "java/util/ArrayList", name := "toArray", desc := "()[Ljava/lang/Object;" } : Jvm.MethodName) jdk_38_method_16_code (1 : Nat) (Option.some (Jvm.ClassFile.FieldType.array (Jvm.ClassFile.FieldType.object "java/lang/Object"))), Jvm.Cond.code ({ cls := "java/util/List", name := "of", desc := "([Ljava/lang/Object;)Ljava/util/List;" } : Jvm.MethodName) jdk_40_method_47_code (2 : Nat) (Option.some (Jvm.ClassFile.FieldType.object "java/util/List")), Jvm.Cond.code ({ cls := "java/util/ImmutableCollections$List12", name := "<init>", desc := "(Ljava/lang/Object;)V" } : Jvm.MethodName) jdk_44_method_1_code (2 : Nat) (Option.none : Option Jvm.ClassFile.FieldType), Jvm.Cond.code ({ cls := "java/util/ImmutableCollections$AbstractImmutableList", name := "<init>", desc := "()V" } : Jvm.MethodName) jdk_46_method_1_code (1 : Nat) (Option.none : Option Jvm.ClassFile.FieldType), Jvm.Cond.code ({ cls := "java/util/ImmutableCollections$AbstractImmutableCollection", name := "<init>", desc := "()V" } : Jvm.MethodName) jdk_47_method_1_code (1 : Nat) (Option.none : Option Jvm.ClassFile.FieldType), Jvm.Cond.code ({ cls := "java/util/Objects", name := "requireNonNull", desc := "(Ljava/lang/Object;)Ljava/lang/Object;" } : Jvm.MethodName) jdk_31_method_10_code (1 : Nat) (Option.some (Jvm.ClassFile.FieldType.object "java/lang/Object")), Jvm.Cond.code ({ cls := "com/example/lockstitch/lockstitch/engine/tree/ResourcePath", name := "<init>", desc := "(Ljava/util/List;[B)V" } : Jvm.MethodName) prog_24_method_2_code (3 : Nat) (Option.none : Option Jvm.ClassFile.FieldType), Jvm.Cond.code ({ cls := "java/util/Optional", name := "of", desc := "(Ljava/lang/Object;)Ljava/util/Optional;" } : Jvm.MethodName) jdk_32_method_3_code (1 : Nat) (Option.some (Jvm.ClassFile.FieldType.object "java/util/Optional")), Jvm.Cond.code ({ cls := "java/util/Optional", name := "<init>", desc := "(Ljava/lang/Object;)V" } : Jvm.MethodName) jdk_32_method_2_code (2 : Nat) (Option.none : Option Jvm.ClassFile.FieldType), Jvm.Cond.code ({ cls := "com/example/lockstitch/lockstitch/engine/tree/SyncToken", name := "<init>", desc := "(Ljava/lang/String;Ljava/lang/String;JLjava/util/Optional;ZJ)V" } : Jvm.MethodName) prog_27_method_2_code (9 : Nat) (Option.none : Option Jvm.ClassFile.FieldType), Jvm.Cond.code ({ cls := "java/util/Optional", name := "orElse", desc := "(Ljava/lang/Object;)Ljava/lang/Object;" } : Jvm.MethodName) jdk_32_method_15_code (2 : Nat) (Option.some (Jvm.ClassFile.FieldType.object "java/lang/Object")), Jvm.Cond.code ({ cls := "java/util/Optional", name := "isPresent", desc := "()Z" } : Jvm.MethodName) jdk_32_method_6_code (1 : Nat) (Option.some Jvm.ClassFile.FieldType.boolean), Jvm.Cond.code ({ cls := "com/example/lockstitch/lockstitch/engine/tree/SyncToken", name := "wholeUpTo", desc := "()J" } : Jvm.MethodName) prog_27_method_9_code (1 : Nat) (Option.some Jvm.ClassFile.FieldType.long), Jvm.Cond.code ({ cls := "java/lang/Math", name := "min", desc := "(JJ)J" } : Jvm.MethodName) jdk_29_method_70_code (4 : Nat) (Option.some Jvm.ClassFile.FieldType.long), Jvm.Cond.code ({ cls := "com/example/lockstitch/lockstitch/engine/tree/SyncToken", name := "begun", desc := "()J" } : Jvm.MethodName) prog_27_method_12_code (1 : Nat) (Option.some Jvm.ClassFile.FieldType.long), Jvm.Cond.code ({ cls := "java/lang/StringUTF16", name := "newBytesFor", desc := "(I)[B" } : Jvm.MethodName) jdk_52_method_2_code (1 : Nat) (Option.some (Jvm.ClassFile.FieldType.array Jvm.ClassFile.FieldType.byte)), Jvm.Cond.code ({ cls := "java/lang/StringUTF16", name := "newBytesLength", desc := "(I)I" } : Jvm.MethodName) jdk_52_method_3_code (1 : Nat) (Option.some Jvm.ClassFile.FieldType.int), Jvm.Cond.code ({ cls := "java/util/Optional", name := "empty", desc := "()Ljava/util/Optional;" } : Jvm.MethodName) jdk_32_method_1_code (1 : Nat) (Option.some (Jvm.ClassFile.FieldType.object "java/util/Optional"))]
set_option maxRecDepth 65536 in
theorem codes_eq : words1.filter isCode = codes1 := rfl
theorem w_codes : ∀ c ∈ words1.filter isCode, c.before args0 about1 = true := by
  rw [codes_eq]
  intro c hc
  simp only [codes1, List.mem_cons, List.not_mem_nil, or_false] at hc
  rcases hc with rfl | rfl | rfl | rfl | rfl | rfl | rfl | rfl | rfl | rfl | rfl | rfl | rfl | rfl | rfl | rfl | rfl | rfl | rfl | rfl | rfl | rfl | rfl | rfl | rfl | rfl | rfl | rfl | rfl | rfl | rfl | rfl | rfl | rfl | rfl | rfl | rfl | rfl | rfl | rfl | rfl | rfl | rfl | rfl | rfl | rfl | rfl | rfl | rfl | rfl | rfl | rfl | rfl | rfl | rfl | rfl | rfl | rfl
  · exact w_c0
  · exact w_c1
  · exact w_c2
  · exact w_c3
  · exact w_c4
  · exact w_c5
  · exact w_c6
  · exact w_c7
  · exact w_c8
  · exact w_c9
  · exact w_c10
  · exact w_c11
  · exact w_c12
  · exact w_c13
  · exact w_c14
  · exact w_c15
  · exact w_c16
  · exact w_c17
  · exact w_c18
  · exact w_c19
  · exact w_c20
  · exact w_c21
  · exact w_c22
  · exact w_c23
  · exact w_c24
  · exact w_c25
  · exact w_c26
  · exact w_c27
  · exact w_c28
  · exact w_c29
  · exact w_c30
  · exact w_c31
  · exact w_c32
  · exact w_c33
  · exact w_c34
  · exact w_c35
  · exact w_c36
  · exact w_c37
  · exact w_c38
  · exact w_c39
  · exact w_c40
  · exact w_c41
  · exact w_c42
  · exact w_c43
  · exact w_c44
  · exact w_c45
  · exact w_c46
  · exact w_c47
  · exact w_c48
  · exact w_c49
  · exact w_c50
  · exact w_c51
  · exact w_c52
  · exact w_c53
  · exact w_c54
  · exact w_c55
  · exact w_c56
  · exact w_c57
set_option maxRecDepth 65536 in
theorem w_t1 : (words1.take 24).all (fun c => isCode c || c.before args0 about1) = true := by decide +kernel
set_option maxRecDepth 65536 in
theorem w_t2 : ((words1.drop 24).take 24).all (fun c => isCode c || c.before args0 about1) = true := by decide +kernel
set_option maxRecDepth 65536 in
theorem w_t3 : (((words1.drop 24).drop 24).take 24).all (fun c => isCode c || c.before args0 about1) = true := by decide +kernel
set_option maxRecDepth 65536 in
theorem w_t4 : ((((words1.drop 24).drop 24).drop 24).take 24).all (fun c => isCode c || c.before args0 about1) = true := by decide +kernel
set_option maxRecDepth 65536 in
theorem w_t5 : (((((words1.drop 24).drop 24).drop 24).drop 24).take 24).all (fun c => isCode c || c.before args0 about1) = true := by decide +kernel
set_option maxRecDepth 65536 in
theorem w_t6 : ((((((words1.drop 24).drop 24).drop 24).drop 24).drop 24).take 24).all (fun c => isCode c || c.before args0 about1) = true := by decide +kernel
set_option maxRecDepth 65536 in
theorem w_t7 : (((((((words1.drop 24).drop 24).drop 24).drop 24).drop 24).drop 24).take 24).all (fun c => isCode c || c.before args0 about1) = true := by decide +kernel
set_option maxRecDepth 65536 in
theorem w_t8 : ((((((((words1.drop 24).drop 24).drop 24).drop 24).drop 24).drop 24).drop 24).take 24).all (fun c => isCode c || c.before args0 about1) = true := by decide +kernel
set_option maxRecDepth 65536 in
theorem w_t9 : (((((((((words1.drop 24).drop 24).drop 24).drop 24).drop 24).drop 24).drop 24).drop 24).take 24).all (fun c => isCode c || c.before args0 about1) = true := by decide +kernel
set_option maxRecDepth 65536 in
theorem w_t10 : ((((((((((words1.drop 24).drop 24).drop 24).drop 24).drop 24).drop 24).drop 24).drop 24).drop 24).take 24).all (fun c => isCode c || c.before args0 about1) = true := by decide +kernel
set_option maxRecDepth 65536 in
theorem w_t11 : (((((((((((words1.drop 24).drop 24).drop 24).drop 24).drop 24).drop 24).drop 24).drop 24).drop 24).drop 24).take 24).all (fun c => isCode c || c.before args0 about1) = true := by decide +kernel
set_option maxRecDepth 65536 in
theorem w_t12 : ((((((((((((words1.drop 24).drop 24).drop 24).drop 24).drop 24).drop 24).drop 24).drop 24).drop 24).drop 24).drop 24).take 24).all (fun c => isCode c || c.before args0 about1) = true := by decide +kernel
set_option maxRecDepth 65536 in
theorem w_t13 : (((((((((((((words1.drop 24).drop 24).drop 24).drop 24).drop 24).drop 24).drop 24).drop 24).drop 24).drop 24).drop 24).drop 24).take 24).all (fun c => isCode c || c.before args0 about1) = true := by decide +kernel
set_option maxRecDepth 65536 in
theorem w_t14 : ((((((((((((((words1.drop 24).drop 24).drop 24).drop 24).drop 24).drop 24).drop 24).drop 24).drop 24).drop 24).drop 24).drop 24).drop 24).take 24).all (fun c => isCode c || c.before args0 about1) = true := by decide +kernel
set_option maxRecDepth 65536 in
theorem w_t15 : (((((((((((((((words1.drop 24).drop 24).drop 24).drop 24).drop 24).drop 24).drop 24).drop 24).drop 24).drop 24).drop 24).drop 24).drop 24).drop 24).take 24).all (fun c => isCode c || c.before args0 about1) = true := by decide +kernel
set_option maxRecDepth 65536 in
theorem w_t16 : (((((((((((((((words1.drop 24).drop 24).drop 24).drop 24).drop 24).drop 24).drop 24).drop 24).drop 24).drop 24).drop 24).drop 24).drop 24).drop 24).drop 24).all (fun c => isCode c || c.before args0 about1) = true := by decide +kernel
theorem w_tables : (allAtoms (Jvm.Cond.code x code maxLocals ret :: tables_1)).before args0 about1 = true := by
  rw [allAtoms_all]
  show words1.all (fun c => c.before args0 about1) = true
  refine all_split ?_ w_codes
  rw [← List.take_append_drop 24 words1, List.all_append, w_t1, ← List.take_append_drop 24 (words1.drop 24), List.all_append, w_t2, ← List.take_append_drop 24 ((words1.drop 24).drop 24), List.all_append, w_t3, ← List.take_append_drop 24 (((words1.drop 24).drop 24).drop 24), List.all_append, w_t4, ← List.take_append_drop 24 ((((words1.drop 24).drop 24).drop 24).drop 24), List.all_append, w_t5, ← List.take_append_drop 24 (((((words1.drop 24).drop 24).drop 24).drop 24).drop 24), List.all_append, w_t6, ← List.take_append_drop 24 ((((((words1.drop 24).drop 24).drop 24).drop 24).drop 24).drop 24), List.all_append, w_t7, ← List.take_append_drop 24 (((((((words1.drop 24).drop 24).drop 24).drop 24).drop 24).drop 24).drop 24), List.all_append, w_t8, ← List.take_append_drop 24 ((((((((words1.drop 24).drop 24).drop 24).drop 24).drop 24).drop 24).drop 24).drop 24), List.all_append, w_t9, ← List.take_append_drop 24 (((((((((words1.drop 24).drop 24).drop 24).drop 24).drop 24).drop 24).drop 24).drop 24).drop 24), List.all_append, w_t10, ← List.take_append_drop 24 ((((((((((words1.drop 24).drop 24).drop 24).drop 24).drop 24).drop 24).drop 24).drop 24).drop 24).drop 24), List.all_append, w_t11, ← List.take_append_drop 24 (((((((((((words1.drop 24).drop 24).drop 24).drop 24).drop 24).drop 24).drop 24).drop 24).drop 24).drop 24).drop 24), List.all_append, w_t12, ← List.take_append_drop 24 ((((((((((((words1.drop 24).drop 24).drop 24).drop 24).drop 24).drop 24).drop 24).drop 24).drop 24).drop 24).drop 24).drop 24), List.all_append, w_t13, ← List.take_append_drop 24 (((((((((((((words1.drop 24).drop 24).drop 24).drop 24).drop 24).drop 24).drop 24).drop 24).drop 24).drop 24).drop 24).drop 24).drop 24), List.all_append, w_t14, ← List.take_append_drop 24 ((((((((((((((words1.drop 24).drop 24).drop 24).drop 24).drop 24).drop 24).drop 24).drop 24).drop 24).drop 24).drop 24).drop 24).drop 24).drop 24), List.all_append, w_t15, w_t16]
  rfl
set_option maxRecDepth 65536 in
theorem w_rest : rest_1_c.before args0 about1 = true := by decide +kernel
set_option maxRecDepth 65536 in
theorem w_case : (Jvm.Cond.and given_1 narrow_1).before args0 about1 = true := by decide +kernel
set_option maxRecDepth 65536 in
theorem w_consts : constsHeld consts_1 about1 := Jvm.Lit.constsHeldB_iff.mp (by decide +kernel)
theorem w_applies : (headSpec (Jvm.Cond.code x code maxLocals ret :: tables_1) room_1).applies x e0.platform about1 = true :=
  (Spec.applies_iff w_frames).mpr ⟨w_running, w_runnable, w_alone, w_named, w_hears, w_ripe, w_room, w_tables⟩
theorem atStart : AtStart classFile x code maxLocals ret World_1 tables_1 room_1 Calls_1 rest_1 Pre_1 launch0 p0 e0 about1 theMethod args0 below0 :=
  ⟨lists_1, trivial, launch0.admits_env _ _ _, launch0.least_env, fairChoices_fair.cas, fairChoices_fair.clock, w_frames, w_args, w_heap, w_applies, ⟨⟨44, k44, 7, by decide +kernel, rfl, rfl, _, rfl, rfl⟩, ⟨w_consts, trivial⟩⟩, w_rest, w_case⟩
end start1
theorem witness_1 : WitnessClaimed_1 := ⟨start1.p0, start1.e0, start1.about1, start1.theMethod, start1.args0, start1.below0, start1.atStart⟩
end Jvm.Pilot.@@N@@
