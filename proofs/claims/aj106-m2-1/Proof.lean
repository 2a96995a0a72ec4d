import JvmDerived
import JvmDerived.Pilot.@@N@@Statement
import JvmDerived.Pilot.@@N@@Code
set_option linter.unusedVariables false
set_option linter.unusedSimpArgs false

namespace Jvm.Pilot.@@N@@
open Jvm Jvm.ClassFile Sem Op Lib Jvm.Free Jvm.Stand Jvm.LawKit Jvm.RoadKit Bundle Jvm.Pilot.@@N@@.Jvm.D
section Kit
variable {p : Program} {l : Launch} {e : Env} {R : Room} {s : State} {m : MethodId} {args : Array Value} {below : List Frame} {meth : Method} {c : Code} {T : State} {locs : List Loc} {cells slots : Nat} {Z : State} {a0 : Array Value} {bc : ByteArray} {ml : Nat} {own nm : String} {rt : Option FieldType} {Q : Option Value → Heap → List Loc → Prop} {kC kS pc pc' : Nat} {Ls : Array Slot} {S : List Value} {h : Heap}
def Dec (b : ByteArray) (pc : Nat) (i : Instr) (n pc' : Nat) : Prop := decode b pc = .ok (i, n) ∧ pc' = pc + n
def DecJ (b : ByteArray) (pc : Nat) (i : Instr) (o : Int) (tgt nxt : Nat) : Prop := decode b pc = .ok (i, 3) ∧ 0 ≤ (pc : Int) + o ∧ ((pc : Int) + o).toNat = tgt ∧ nxt = pc + 3
def Cur (p : Program) (l : Launch) (e : Env) (s : State) (m : MethodId) (meth : Method) (c : Code) (Z : State) (bc : ByteArray) (ml : Nat) (own nm : String) (rt : Option FieldType) : Prop :=
  p.tables.exec = Jvm.exec ∧ Z.Warmed39 s.vm ∧ c.code = bc ∧ c.maxLocals = ml ∧ s.vm.findClass own = some m.cls ∧ meth.sig.returnType = rt ∧ meth.locks = false ∧ meth.name = nm
def Go (p : Program) (e : Env) (below : List Frame) (s : State) (Q : Option Value → Heap → List Loc → Prop) (kC kS : Nat) (T : State) (f : JFrame) : Prop :=
  ∃ s₂ o, Steps p.tables e below (T.setTop f) s₂ ∧ s₂.status = .running ∧ Ended s₂ below o ∧ ∃ v L, o = .returned v ∧ Q v s₂.heap L ∧ FrameEnd s o s₂ L kC kS
theorem Go.step {T T' : State} {f f' : JFrame} (st : ∀ t, Steps p.tables e below (T'.setTop f') t → Steps p.tables e below (T.setTop f) t) (g : Go p e below s Q kC kS T' f') : Go p e below s Q kC kS T f := by
  obtain ⟨s₂, o, h1, r⟩ := g; exact ⟨s₂, o, st _ h1, r⟩
theorem Go.cast {f f' : JFrame} (q : f = f') (g : Go p e below s Q kC kS T f') : Go p e below s Q kC kS T f := q ▸ g
theorem met_of {y : MethodName} {rm : Room} {as' : Array Value} {h0 : Heap} {ws : List Jvm.Cond} {bytes : ByteArray} {maxL : Nat} {ret : Option FieldType} (hpl : plainFor y = true)
    (body : ∀ {p : Program} {e : Env} {s : State} {m : MethodId} {below : List Frame} {meth : Method} {c : Code} {T : State}, Cur p l e s m meth c Z bytes maxL y.cls y.name ret → Stand p l e rm s m as' below meth c T [] 0 0 → T.heap = h0 → Go p e below s Q rm.cells rm.slots T (entryFrame m as' maxL)) :
    MetFree l y (head1 (Jvm.Cond.code y bytes maxL ret :: ws) rm) (fun a U => a = as' ∧ Z.Warmed39 U.vm ∧ U.heap = h0) (fun _ _ _ _ _ => True) (fun _ U o U' => ∃ v L, o = .returned v ∧ Q v U'.heap L ∧ FrameEnd U o U' L rm.cells rm.slots) := by
  refine MetFree.of_bodySF hpl hisR ?_
  intro p e s m args below meth c s₁ Bd hml0 hP hK
  obtain ⟨rfl, hZ, hh⟩ := hP
  exact body ⟨Bd.exec, hZ, Bd.bytes, hml0, findClass_of_methodNamed Bd.named, Bd.returns, Bd.notSynchronized, (name_of_methodNamed Bd.named Bd.method).1⟩ (Stand.of_body Bd) (by rw [← hh, Bd.state]; rfl)
theorem wiloadN (C : Cur p l e s m meth c Z bc ml own nm rt) (X : Stand p l e R s m args below meth c T locs cells slots) {k : Fin 4} {v : Int32} (hd : Dec bc pc (.iload_n k) 1 pc') (hl : Ls[k.val]? = some (.val (.int v))) (g : Go p e below s Q kC kS T (mkF m pc' Ls (.int v :: S))) : Go p e below s Q kC kS T (mkF m pc Ls S) :=
  Go.step (fun _ k => XS.iloadN X.here C.1 rfl (hb C.2.2.1 hd.1) hl k) (by rw [hd.2] at g; exact g)
theorem wiload (C : Cur p l e s m meth c Z bc ml own nm rt) (X : Stand p l e R s m args below meth c T locs cells slots) {k : Nat} {v : Int32} (hd : Dec bc pc (.iload k) 2 pc') (hl : Ls[k]? = some (.val (.int v))) (g : Go p e below s Q kC kS T (mkF m pc' Ls (.int v :: S))) : Go p e below s Q kC kS T (mkF m pc Ls S) :=
  Go.step (fun _ k => XS.iload X.here C.1 rfl (hb C.2.2.1 hd.1) hl k) (by rw [hd.2] at g; exact g)
theorem wistoreN (C : Cur p l e s m meth c Z bc ml own nm rt) (X : Stand p l e R s m args below meth c T locs cells slots) {k : Fin 4} {v : Int32} (hd : Dec bc pc (.istore_n k) 1 pc') (l' : Array Slot) (hl : storeLocals Ls k.val (.int v) = some l') (g : Go p e below s Q kC kS T (mkF m pc' l' S)) : Go p e below s Q kC kS T (mkF m pc Ls (.int v :: S)) :=
  Go.step (fun _ k => XS.istoreN X.here C.1 rfl (hb C.2.2.1 hd.1) rfl hl k) (by rw [hd.2] at g; exact g)
theorem wistore (C : Cur p l e s m meth c Z bc ml own nm rt) (X : Stand p l e R s m args below meth c T locs cells slots) {k : Nat} {v : Int32} (hd : Dec bc pc (.istore k) 2 pc') (l' : Array Slot) (hl : storeLocals Ls k (.int v) = some l') (g : Go p e below s Q kC kS T (mkF m pc' l' S)) : Go p e below s Q kC kS T (mkF m pc Ls (.int v :: S)) :=
  Go.step (fun _ k => XS.istore X.here C.1 rfl (hb C.2.2.1 hd.1) rfl hl k) (by rw [hd.2] at g; exact g)
theorem wlloadN (C : Cur p l e s m meth c Z bc ml own nm rt) (X : Stand p l e R s m args below meth c T locs cells slots) {k : Fin 4} {v : Int64} (hd : Dec bc pc (.lload_n k) 1 pc') (hl : Ls[k.val]? = some (.val (.long v))) (g : Go p e below s Q kC kS T (mkF m pc' Ls (.long v :: S))) : Go p e below s Q kC kS T (mkF m pc Ls S) :=
  Go.step (fun _ k => XS.lloadN X.here C.1 rfl (hb C.2.2.1 hd.1) hl k) (by rw [hd.2] at g; exact g)
theorem wlload (C : Cur p l e s m meth c Z bc ml own nm rt) (X : Stand p l e R s m args below meth c T locs cells slots) {k : Nat} {v : Int64} (hd : Dec bc pc (.lload k) 2 pc') (hl : Ls[k]? = some (.val (.long v))) (g : Go p e below s Q kC kS T (mkF m pc' Ls (.long v :: S))) : Go p e below s Q kC kS T (mkF m pc Ls S) :=
  Go.step (fun _ k => XS.lload X.here C.1 rfl (hb C.2.2.1 hd.1) hl k) (by rw [hd.2] at g; exact g)
theorem wlstoreN (C : Cur p l e s m meth c Z bc ml own nm rt) (X : Stand p l e R s m args below meth c T locs cells slots) {k : Fin 4} {v : Int64} (hd : Dec bc pc (.lstore_n k) 1 pc') (l' : Array Slot) (hl : storeLocals Ls k.val (.long v) = some l') (g : Go p e below s Q kC kS T (mkF m pc' l' S)) : Go p e below s Q kC kS T (mkF m pc Ls (.long v :: S)) :=
  Go.step (fun _ k => XS.lstoreN X.here C.1 rfl (hb C.2.2.1 hd.1) rfl hl k) (by rw [hd.2] at g; exact g)
theorem wlstore (C : Cur p l e s m meth c Z bc ml own nm rt) (X : Stand p l e R s m args below meth c T locs cells slots) {k : Nat} {v : Int64} (hd : Dec bc pc (.lstore k) 2 pc') (l' : Array Slot) (hl : storeLocals Ls k (.long v) = some l') (g : Go p e below s Q kC kS T (mkF m pc' l' S)) : Go p e below s Q kC kS T (mkF m pc Ls (.long v :: S)) :=
  Go.step (fun _ k => XS.lstore X.here C.1 rfl (hb C.2.2.1 hd.1) rfl hl k) (by rw [hd.2] at g; exact g)
theorem wdloadN (C : Cur p l e s m meth c Z bc ml own nm rt) (X : Stand p l e R s m args below meth c T locs cells slots) {k : Fin 4} {v : UInt64} (hd : Dec bc pc (.dload_n k) 1 pc') (hl : Ls[k.val]? = some (.val (.double v))) (g : Go p e below s Q kC kS T (mkF m pc' Ls (.double v :: S))) : Go p e below s Q kC kS T (mkF m pc Ls S) :=
  Go.step (fun _ k => XS.dloadN X.here C.1 rfl (hb C.2.2.1 hd.1) hl k) (by rw [hd.2] at g; exact g)
theorem wdload (C : Cur p l e s m meth c Z bc ml own nm rt) (X : Stand p l e R s m args below meth c T locs cells slots) {k : Nat} {v : UInt64} (hd : Dec bc pc (.dload k) 2 pc') (hl : Ls[k]? = some (.val (.double v))) (g : Go p e below s Q kC kS T (mkF m pc' Ls (.double v :: S))) : Go p e below s Q kC kS T (mkF m pc Ls S) :=
  Go.step (fun _ k => XS.dload X.here C.1 rfl (hb C.2.2.1 hd.1) hl k) (by rw [hd.2] at g; exact g)
theorem wdstoreN (C : Cur p l e s m meth c Z bc ml own nm rt) (X : Stand p l e R s m args below meth c T locs cells slots) {k : Fin 4} {v : UInt64} (hd : Dec bc pc (.dstore_n k) 1 pc') (l' : Array Slot) (hl : storeLocals Ls k.val (.double v) = some l') (g : Go p e below s Q kC kS T (mkF m pc' l' S)) : Go p e below s Q kC kS T (mkF m pc Ls (.double v :: S)) :=
  Go.step (fun _ k => XS.dstoreN X.here C.1 rfl (hb C.2.2.1 hd.1) rfl hl k) (by rw [hd.2] at g; exact g)
theorem wdstore (C : Cur p l e s m meth c Z bc ml own nm rt) (X : Stand p l e R s m args below meth c T locs cells slots) {k : Nat} {v : UInt64} (hd : Dec bc pc (.dstore k) 2 pc') (l' : Array Slot) (hl : storeLocals Ls k (.double v) = some l') (g : Go p e below s Q kC kS T (mkF m pc' l' S)) : Go p e below s Q kC kS T (mkF m pc Ls (.double v :: S)) :=
  Go.step (fun _ k => XS.dstore X.here C.1 rfl (hb C.2.2.1 hd.1) rfl hl k) (by rw [hd.2] at g; exact g)
theorem waloadN (C : Cur p l e s m meth c Z bc ml own nm rt) (X : Stand p l e R s m args below meth c T locs cells slots) {k : Fin 4} {v : Value} (hd : Dec bc pc (.aload_n k) 1 pc') (hl : Ls[k.val]? = some (.val v)) (hv : v.isRef = true) (g : Go p e below s Q kC kS T (mkF m pc' Ls (v :: S))) : Go p e below s Q kC kS T (mkF m pc Ls S) :=
  Go.step (fun _ k => XS.aloadN X.here C.1 rfl (hb C.2.2.1 hd.1) hl hv k) (by rw [hd.2] at g; exact g)
theorem waload (C : Cur p l e s m meth c Z bc ml own nm rt) (X : Stand p l e R s m args below meth c T locs cells slots) {k : Nat} {v : Value} (hd : Dec bc pc (.aload k) 2 pc') (hl : Ls[k]? = some (.val v)) (hv : v.isRef = true) (g : Go p e below s Q kC kS T (mkF m pc' Ls (v :: S))) : Go p e below s Q kC kS T (mkF m pc Ls S) :=
  Go.step (fun _ k => XS.aload X.here C.1 rfl (hb C.2.2.1 hd.1) hl hv k) (by rw [hd.2] at g; exact g)
theorem wastoreN (C : Cur p l e s m meth c Z bc ml own nm rt) (X : Stand p l e R s m args below meth c T locs cells slots) {k : Fin 4} {v : Value} (hd : Dec bc pc (.astore_n k) 1 pc') (l' : Array Slot) (hv : v.isRef = true) (hl : storeLocals Ls k.val v = some l') (g : Go p e below s Q kC kS T (mkF m pc' l' S)) : Go p e below s Q kC kS T (mkF m pc Ls (v :: S)) :=
  Go.step (fun _ k => XS.astoreN X.here C.1 rfl (hb C.2.2.1 hd.1) rfl hv hl k) (by rw [hd.2] at g; exact g)
theorem wastore (C : Cur p l e s m meth c Z bc ml own nm rt) (X : Stand p l e R s m args below meth c T locs cells slots) {k : Nat} {v : Value} (hd : Dec bc pc (.astore k) 2 pc') (l' : Array Slot) (hv : v.isRef = true) (hl : storeLocals Ls k v = some l') (g : Go p e below s Q kC kS T (mkF m pc' l' S)) : Go p e below s Q kC kS T (mkF m pc Ls (v :: S)) :=
  Go.step (fun _ k => XS.astore X.here C.1 rfl (hb C.2.2.1 hd.1) rfl hv hl k) (by rw [hd.2] at g; exact g)
theorem wiconst (C : Cur p l e s m meth c Z bc ml own nm rt) (X : Stand p l e R s m args below meth c T locs cells slots) {i : Int} (hd : Dec bc pc (.iconst i) 1 pc') (z : Int32) (hz : Int32.ofInt i = z) (g : Go p e below s Q kC kS T (mkF m pc' Ls (.int z :: S))) : Go p e below s Q kC kS T (mkF m pc Ls S) :=
  Go.step (fun _ k => XS.iconst X.here C.1 rfl (hb C.2.2.1 hd.1) (by rw [hz]; exact k)) (by rw [hd.2] at g; exact g)
theorem wbipush (C : Cur p l e s m meth c Z bc ml own nm rt) (X : Stand p l e R s m args below meth c T locs cells slots) {i : Int} (hd : Dec bc pc (.bipush i) 2 pc') (z : Int32) (hz : (Int8.ofInt i).toInt32 = z) (g : Go p e below s Q kC kS T (mkF m pc' Ls (.int z :: S))) : Go p e below s Q kC kS T (mkF m pc Ls S) :=
  Go.step (fun _ k => XS.bipush X.here C.1 rfl (hb C.2.2.1 hd.1) (by rw [hz]; exact k)) (by rw [hd.2] at g; exact g)
theorem wsipush (C : Cur p l e s m meth c Z bc ml own nm rt) (X : Stand p l e R s m args below meth c T locs cells slots) {i : Int} (hd : Dec bc pc (.sipush i) 3 pc') (z : Int32) (hz : (Int16.ofInt i).toInt32 = z) (g : Go p e below s Q kC kS T (mkF m pc' Ls (.int z :: S))) : Go p e below s Q kC kS T (mkF m pc Ls S) :=
  Go.step (fun _ k => XS.sipush X.here C.1 rfl (hb C.2.2.1 hd.1) (by rw [hz]; exact k)) (by rw [hd.2] at g; exact g)
theorem wlconst0 (C : Cur p l e s m meth c Z bc ml own nm rt) (X : Stand p l e R s m args below meth c T locs cells slots) (hd : Dec bc pc (.lconst 0) 1 pc') (g : Go p e below s Q kC kS T (mkF m pc' Ls (.long 0 :: S))) : Go p e below s Q kC kS T (mkF m pc Ls S) :=
  Go.step (fun _ k => XS.lconst X.here C.1 rfl (hb C.2.2.1 hd.1) k) (by rw [hd.2] at g; exact g)
theorem wlconst1 (C : Cur p l e s m meth c Z bc ml own nm rt) (X : Stand p l e R s m args below meth c T locs cells slots) (hd : Dec bc pc (.lconst 1) 1 pc') (g : Go p e below s Q kC kS T (mkF m pc' Ls (.long 1 :: S))) : Go p e below s Q kC kS T (mkF m pc Ls S) :=
  Go.step (fun _ k => XS.lconst X.here C.1 rfl (hb C.2.2.1 hd.1) k) (by rw [hd.2] at g; exact g)
theorem wdconst0 (C : Cur p l e s m meth c Z bc ml own nm rt) (X : Stand p l e R s m args below meth c T locs cells slots) (hd : Dec bc pc (.dconst 0) 1 pc') (g : Go p e below s Q kC kS T (mkF m pc' Ls (.double FP.dconst0 :: S))) : Go p e below s Q kC kS T (mkF m pc Ls S) :=
  Go.step (fun _ k => XS.dconst0 X.here C.1 rfl (hb C.2.2.1 hd.1) rfl k) (by rw [hd.2] at g; exact g)
theorem wdconst1 (C : Cur p l e s m meth c Z bc ml own nm rt) (X : Stand p l e R s m args below meth c T locs cells slots) (hd : Dec bc pc (.dconst 1) 1 pc') (g : Go p e below s Q kC kS T (mkF m pc' Ls (.double FP.dconst1 :: S))) : Go p e below s Q kC kS T (mkF m pc Ls S) :=
  Go.step (fun _ k => XS.dconst1 X.here C.1 rfl (hb C.2.2.1 hd.1) rfl k) (by rw [hd.2] at g; exact g)
theorem wnull (C : Cur p l e s m meth c Z bc ml own nm rt) (X : Stand p l e R s m args below meth c T locs cells slots) (hd : Dec bc pc (.aconst_null) 1 pc') (g : Go p e below s Q kC kS T (mkF m pc' Ls (.null :: S))) : Go p e below s Q kC kS T (mkF m pc Ls S) :=
  Go.step (fun _ k => XS.aconstNull X.here C.1 rfl (hb C.2.2.1 hd.1) k) (by rw [hd.2] at g; exact g)
theorem wiadd (C : Cur p l e s m meth c Z bc ml own nm rt) (X : Stand p l e R s m args below meth c T locs cells slots) {x y : Int32} (hd : Dec bc pc (.iadd) 1 pc') (g : Go p e below s Q kC kS T (mkF m pc' Ls (.int (x + y) :: S))) : Go p e below s Q kC kS T (mkF m pc Ls (.int y :: .int x :: S)) :=
  Go.step (fun _ k => XS.iadd X.here C.1 rfl (hb C.2.2.1 hd.1) rfl k) (by rw [hd.2] at g; exact g)
theorem wisub (C : Cur p l e s m meth c Z bc ml own nm rt) (X : Stand p l e R s m args below meth c T locs cells slots) {x y : Int32} (hd : Dec bc pc (.isub) 1 pc') (g : Go p e below s Q kC kS T (mkF m pc' Ls (.int (x - y) :: S))) : Go p e below s Q kC kS T (mkF m pc Ls (.int y :: .int x :: S)) :=
  Go.step (fun _ k => XS.isub X.here C.1 rfl (hb C.2.2.1 hd.1) rfl k) (by rw [hd.2] at g; exact g)
theorem wimul (C : Cur p l e s m meth c Z bc ml own nm rt) (X : Stand p l e R s m args below meth c T locs cells slots) {x y : Int32} (hd : Dec bc pc (.imul) 1 pc') (g : Go p e below s Q kC kS T (mkF m pc' Ls (.int (x * y) :: S))) : Go p e below s Q kC kS T (mkF m pc Ls (.int y :: .int x :: S)) :=
  Go.step (fun _ k => XS.imul X.here C.1 rfl (hb C.2.2.1 hd.1) rfl k) (by rw [hd.2] at g; exact g)
theorem wiand (C : Cur p l e s m meth c Z bc ml own nm rt) (X : Stand p l e R s m args below meth c T locs cells slots) {x y : Int32} (hd : Dec bc pc (.iand) 1 pc') (g : Go p e below s Q kC kS T (mkF m pc' Ls (.int (x &&& y) :: S))) : Go p e below s Q kC kS T (mkF m pc Ls (.int y :: .int x :: S)) :=
  Go.step (fun _ k => XS.iand X.here C.1 rfl (hb C.2.2.1 hd.1) rfl k) (by rw [hd.2] at g; exact g)
theorem wior (C : Cur p l e s m meth c Z bc ml own nm rt) (X : Stand p l e R s m args below meth c T locs cells slots) {x y : Int32} (hd : Dec bc pc (.ior) 1 pc') (g : Go p e below s Q kC kS T (mkF m pc' Ls (.int (x ||| y) :: S))) : Go p e below s Q kC kS T (mkF m pc Ls (.int y :: .int x :: S)) :=
  Go.step (fun _ k => XS.ior X.here C.1 rfl (hb C.2.2.1 hd.1) rfl k) (by rw [hd.2] at g; exact g)
theorem wixor (C : Cur p l e s m meth c Z bc ml own nm rt) (X : Stand p l e R s m args below meth c T locs cells slots) {x y : Int32} (hd : Dec bc pc (.ixor) 1 pc') (g : Go p e below s Q kC kS T (mkF m pc' Ls (.int (x ^^^ y) :: S))) : Go p e below s Q kC kS T (mkF m pc Ls (.int y :: .int x :: S)) :=
  Go.step (fun _ k => XS.ixor X.here C.1 rfl (hb C.2.2.1 hd.1) rfl k) (by rw [hd.2] at g; exact g)
theorem wishl (C : Cur p l e s m meth c Z bc ml own nm rt) (X : Stand p l e R s m args below meth c T locs cells slots) {x y : Int32} (hd : Dec bc pc (.ishl) 1 pc') (g : Go p e below s Q kC kS T (mkF m pc' Ls (.int (x <<< (y &&& 31)) :: S))) : Go p e below s Q kC kS T (mkF m pc Ls (.int y :: .int x :: S)) :=
  Go.step (fun _ k => XS.ishl X.here C.1 rfl (hb C.2.2.1 hd.1) rfl k) (by rw [hd.2] at g; exact g)
theorem wishr (C : Cur p l e s m meth c Z bc ml own nm rt) (X : Stand p l e R s m args below meth c T locs cells slots) {x y : Int32} (hd : Dec bc pc (.ishr) 1 pc') (g : Go p e below s Q kC kS T (mkF m pc' Ls (.int (x >>> (y &&& 31)) :: S))) : Go p e below s Q kC kS T (mkF m pc Ls (.int y :: .int x :: S)) :=
  Go.step (fun _ k => XS.ishr X.here C.1 rfl (hb C.2.2.1 hd.1) rfl k) (by rw [hd.2] at g; exact g)
theorem wiushr (C : Cur p l e s m meth c Z bc ml own nm rt) (X : Stand p l e R s m args below meth c T locs cells slots) {x y : Int32} (hd : Dec bc pc (.iushr) 1 pc') (g : Go p e below s Q kC kS T (mkF m pc' Ls (.int ((x.toUInt32 >>> (y &&& 31).toUInt32).toInt32) :: S))) : Go p e below s Q kC kS T (mkF m pc Ls (.int y :: .int x :: S)) :=
  Go.step (fun _ k => XS.iushr X.here C.1 rfl (hb C.2.2.1 hd.1) rfl k) (by rw [hd.2] at g; exact g)
theorem wladd (C : Cur p l e s m meth c Z bc ml own nm rt) (X : Stand p l e R s m args below meth c T locs cells slots) {x y : Int64} (hd : Dec bc pc (.ladd) 1 pc') (g : Go p e below s Q kC kS T (mkF m pc' Ls (.long (x + y) :: S))) : Go p e below s Q kC kS T (mkF m pc Ls (.long y :: .long x :: S)) :=
  Go.step (fun _ k => XS.ladd X.here C.1 rfl (hb C.2.2.1 hd.1) rfl k) (by rw [hd.2] at g; exact g)
theorem wlsub (C : Cur p l e s m meth c Z bc ml own nm rt) (X : Stand p l e R s m args below meth c T locs cells slots) {x y : Int64} (hd : Dec bc pc (.lsub) 1 pc') (g : Go p e below s Q kC kS T (mkF m pc' Ls (.long (x - y) :: S))) : Go p e below s Q kC kS T (mkF m pc Ls (.long y :: .long x :: S)) :=
  Go.step (fun _ k => XS.lsub X.here C.1 rfl (hb C.2.2.1 hd.1) rfl k) (by rw [hd.2] at g; exact g)
theorem wlmul (C : Cur p l e s m meth c Z bc ml own nm rt) (X : Stand p l e R s m args below meth c T locs cells slots) {x y : Int64} (hd : Dec bc pc (.lmul) 1 pc') (g : Go p e below s Q kC kS T (mkF m pc' Ls (.long (x * y) :: S))) : Go p e below s Q kC kS T (mkF m pc Ls (.long y :: .long x :: S)) :=
  Go.step (fun _ k => XS.lmul X.here C.1 rfl (hb C.2.2.1 hd.1) rfl k) (by rw [hd.2] at g; exact g)
theorem wland (C : Cur p l e s m meth c Z bc ml own nm rt) (X : Stand p l e R s m args below meth c T locs cells slots) {x y : Int64} (hd : Dec bc pc (.land) 1 pc') (g : Go p e below s Q kC kS T (mkF m pc' Ls (.long (x &&& y) :: S))) : Go p e below s Q kC kS T (mkF m pc Ls (.long y :: .long x :: S)) :=
  Go.step (fun _ k => XS.land X.here C.1 rfl (hb C.2.2.1 hd.1) rfl k) (by rw [hd.2] at g; exact g)
theorem wlor (C : Cur p l e s m meth c Z bc ml own nm rt) (X : Stand p l e R s m args below meth c T locs cells slots) {x y : Int64} (hd : Dec bc pc (.lor) 1 pc') (g : Go p e below s Q kC kS T (mkF m pc' Ls (.long (x ||| y) :: S))) : Go p e below s Q kC kS T (mkF m pc Ls (.long y :: .long x :: S)) :=
  Go.step (fun _ k => XS.lor X.here C.1 rfl (hb C.2.2.1 hd.1) rfl k) (by rw [hd.2] at g; exact g)
theorem wlxor (C : Cur p l e s m meth c Z bc ml own nm rt) (X : Stand p l e R s m args below meth c T locs cells slots) {x y : Int64} (hd : Dec bc pc (.lxor) 1 pc') (g : Go p e below s Q kC kS T (mkF m pc' Ls (.long (x ^^^ y) :: S))) : Go p e below s Q kC kS T (mkF m pc Ls (.long y :: .long x :: S)) :=
  Go.step (fun _ k => XS.lxor X.here C.1 rfl (hb C.2.2.1 hd.1) rfl k) (by rw [hd.2] at g; exact g)
theorem wlshl (C : Cur p l e s m meth c Z bc ml own nm rt) (X : Stand p l e R s m args below meth c T locs cells slots) {x : Int64} {y : Int32} (hd : Dec bc pc (.lshl) 1 pc') (g : Go p e below s Q kC kS T (mkF m pc' Ls (.long (x <<< (y &&& 0x3f).toInt64) :: S))) : Go p e below s Q kC kS T (mkF m pc Ls (.int y :: .long x :: S)) :=
  Go.step (fun _ k => XS.lshl X.here C.1 rfl (hb C.2.2.1 hd.1) rfl k) (by rw [hd.2] at g; exact g)
theorem wlshr (C : Cur p l e s m meth c Z bc ml own nm rt) (X : Stand p l e R s m args below meth c T locs cells slots) {x : Int64} {y : Int32} (hd : Dec bc pc (.lshr) 1 pc') (g : Go p e below s Q kC kS T (mkF m pc' Ls (.long (x >>> (y &&& 0x3f).toInt64) :: S))) : Go p e below s Q kC kS T (mkF m pc Ls (.int y :: .long x :: S)) :=
  Go.step (fun _ k => XS.lshr X.here C.1 rfl (hb C.2.2.1 hd.1) rfl k) (by rw [hd.2] at g; exact g)
theorem wlushr (C : Cur p l e s m meth c Z bc ml own nm rt) (X : Stand p l e R s m args below meth c T locs cells slots) {x : Int64} {y : Int32} (hd : Dec bc pc (.lushr) 1 pc') (g : Go p e below s Q kC kS T (mkF m pc' Ls (.long ((x.toUInt64 >>> (y &&& 0x3f).toInt64.toUInt64).toInt64) :: S))) : Go p e below s Q kC kS T (mkF m pc Ls (.int y :: .long x :: S)) :=
  Go.step (fun _ k => XS.lushr X.here C.1 rfl (hb C.2.2.1 hd.1) rfl k) (by rw [hd.2] at g; exact g)
theorem widiv (C : Cur p l e s m meth c Z bc ml own nm rt) (X : Stand p l e R s m args below meth c T locs cells slots) {x y : Int32} (hd : Dec bc pc (.idiv) 1 pc') (hy : y ≠ 0) (g : Go p e below s Q kC kS T (mkF m pc' Ls (.int (x / y) :: S))) : Go p e below s Q kC kS T (mkF m pc Ls (.int y :: .int x :: S)) :=
  Go.step (fun _ k => XS.idiv X.here C.1 rfl (hb C.2.2.1 hd.1) rfl hy k) (by rw [hd.2] at g; exact g)
theorem wirem (C : Cur p l e s m meth c Z bc ml own nm rt) (X : Stand p l e R s m args below meth c T locs cells slots) {x y : Int32} (hd : Dec bc pc (.irem) 1 pc') (hy : y ≠ 0) (g : Go p e below s Q kC kS T (mkF m pc' Ls (.int (x % y) :: S))) : Go p e below s Q kC kS T (mkF m pc Ls (.int y :: .int x :: S)) :=
  Go.step (fun _ k => iremM X C.1 rfl (hb C.2.2.1 hd.1) rfl hy k) (by rw [hd.2] at g; exact g)
theorem wldiv (C : Cur p l e s m meth c Z bc ml own nm rt) (X : Stand p l e R s m args below meth c T locs cells slots) {x y : Int64} (hd : Dec bc pc (.ldiv) 1 pc') (hy : y ≠ 0) (g : Go p e below s Q kC kS T (mkF m pc' Ls (.long (x / y) :: S))) : Go p e below s Q kC kS T (mkF m pc Ls (.long y :: .long x :: S)) :=
  Go.step (fun _ k => XS.ldiv X.here C.1 rfl (hb C.2.2.1 hd.1) rfl hy k) (by rw [hd.2] at g; exact g)
theorem wineg (C : Cur p l e s m meth c Z bc ml own nm rt) (X : Stand p l e R s m args below meth c T locs cells slots) {x : Int32} (hd : Dec bc pc (.ineg) 1 pc') (g : Go p e below s Q kC kS T (mkF m pc' Ls (.int (-x) :: S))) : Go p e below s Q kC kS T (mkF m pc Ls (.int x :: S)) :=
  Go.step (fun _ k => XS.ineg X.here C.1 rfl (hb C.2.2.1 hd.1) rfl k) (by rw [hd.2] at g; exact g)
theorem wi2l (C : Cur p l e s m meth c Z bc ml own nm rt) (X : Stand p l e R s m args below meth c T locs cells slots) {x : Int32} (hd : Dec bc pc (.i2l) 1 pc') (g : Go p e below s Q kC kS T (mkF m pc' Ls (.long (x.toInt64) :: S))) : Go p e below s Q kC kS T (mkF m pc Ls (.int x :: S)) :=
  Go.step (fun _ k => XS.i2l X.here C.1 rfl (hb C.2.2.1 hd.1) rfl k) (by rw [hd.2] at g; exact g)
theorem wl2i (C : Cur p l e s m meth c Z bc ml own nm rt) (X : Stand p l e R s m args below meth c T locs cells slots) {x : Int64} (hd : Dec bc pc (.l2i) 1 pc') (g : Go p e below s Q kC kS T (mkF m pc' Ls (.int (x.toInt32) :: S))) : Go p e below s Q kC kS T (mkF m pc Ls (.long x :: S)) :=
  Go.step (fun _ k => XS.l2i X.here C.1 rfl (hb C.2.2.1 hd.1) rfl k) (by rw [hd.2] at g; exact g)
theorem wi2b (C : Cur p l e s m meth c Z bc ml own nm rt) (X : Stand p l e R s m args below meth c T locs cells slots) {x : Int32} (hd : Dec bc pc (.i2b) 1 pc') (g : Go p e below s Q kC kS T (mkF m pc' Ls (.int (x.toInt8.toInt32) :: S))) : Go p e below s Q kC kS T (mkF m pc Ls (.int x :: S)) :=
  Go.step (fun _ k => XS.i2b X.here C.1 rfl (hb C.2.2.1 hd.1) rfl k) (by rw [hd.2] at g; exact g)
theorem wi2s (C : Cur p l e s m meth c Z bc ml own nm rt) (X : Stand p l e R s m args below meth c T locs cells slots) {x : Int32} (hd : Dec bc pc (.i2s) 1 pc') (g : Go p e below s Q kC kS T (mkF m pc' Ls (.int (x.toInt16.toInt32) :: S))) : Go p e below s Q kC kS T (mkF m pc Ls (.int x :: S)) :=
  Go.step (fun _ k => XS.i2s X.here C.1 rfl (hb C.2.2.1 hd.1) rfl k) (by rw [hd.2] at g; exact g)
theorem wi2c (C : Cur p l e s m meth c Z bc ml own nm rt) (X : Stand p l e R s m args below meth c T locs cells slots) {x : Int32} (hd : Dec bc pc (.i2c) 1 pc') (g : Go p e below s Q kC kS T (mkF m pc' Ls (.int (x.toUInt32.toUInt16.toUInt32.toInt32) :: S))) : Go p e below s Q kC kS T (mkF m pc Ls (.int x :: S)) :=
  Go.step (fun _ k => XS.i2c X.here C.1 rfl (hb C.2.2.1 hd.1) rfl k) (by rw [hd.2] at g; exact g)
theorem wlneg (C : Cur p l e s m meth c Z bc ml own nm rt) (X : Stand p l e R s m args below meth c T locs cells slots) {x : Int64} (hd : Dec bc pc (.lneg) 1 pc') (g : Go p e below s Q kC kS T (mkF m pc' Ls (.long (-x) :: S))) : Go p e below s Q kC kS T (mkF m pc Ls (.long x :: S)) :=
  Go.step (fun _ k => XS.lneg X.here C.1 rfl (hb C.2.2.1 hd.1) rfl k) (by rw [hd.2] at g; exact g)
theorem wi2d (C : Cur p l e s m meth c Z bc ml own nm rt) (X : Stand p l e R s m args below meth c T locs cells slots) {x : Int32} (hd : Dec bc pc (.i2d) 1 pc') (g : Go p e below s Q kC kS T (mkF m pc' Ls (.double (FP.i2d x) :: S))) : Go p e below s Q kC kS T (mkF m pc Ls (.int x :: S)) :=
  Go.step (fun _ k => XS.i2dS X.here C.1 rfl (hb C.2.2.1 hd.1) rfl rfl k) (by rw [hd.2] at g; exact g)
theorem wl2d (C : Cur p l e s m meth c Z bc ml own nm rt) (X : Stand p l e R s m args below meth c T locs cells slots) {x : Int64} (hd : Dec bc pc (.l2d) 1 pc') (g : Go p e below s Q kC kS T (mkF m pc' Ls (.double (FP.l2d x) :: S))) : Go p e below s Q kC kS T (mkF m pc Ls (.long x :: S)) :=
  Go.step (fun _ k => XS.l2dS X.here C.1 rfl (hb C.2.2.1 hd.1) rfl rfl k) (by rw [hd.2] at g; exact g)
theorem wd2i (C : Cur p l e s m meth c Z bc ml own nm rt) (X : Stand p l e R s m args below meth c T locs cells slots) {x : UInt64} (hd : Dec bc pc (.d2i) 1 pc') (g : Go p e below s Q kC kS T (mkF m pc' Ls (.int (FP.d2i x) :: S))) : Go p e below s Q kC kS T (mkF m pc Ls (.double x :: S)) :=
  Go.step (fun _ k => XS.d2iS X.here C.1 rfl (hb C.2.2.1 hd.1) rfl rfl k) (by rw [hd.2] at g; exact g)
theorem wd2l (C : Cur p l e s m meth c Z bc ml own nm rt) (X : Stand p l e R s m args below meth c T locs cells slots) {x : UInt64} (hd : Dec bc pc (.d2l) 1 pc') (g : Go p e below s Q kC kS T (mkF m pc' Ls (.long (FP.d2l x) :: S))) : Go p e below s Q kC kS T (mkF m pc Ls (.double x :: S)) :=
  Go.step (fun _ k => XS.d2lS X.here C.1 rfl (hb C.2.2.1 hd.1) rfl rfl k) (by rw [hd.2] at g; exact g)
theorem wdneg (C : Cur p l e s m meth c Z bc ml own nm rt) (X : Stand p l e R s m args below meth c T locs cells slots) {x : UInt64} (hd : Dec bc pc (.dneg) 1 pc') (g : Go p e below s Q kC kS T (mkF m pc' Ls (.double (FP.dneg x) :: S))) : Go p e below s Q kC kS T (mkF m pc Ls (.double x :: S)) :=
  Go.step (fun _ k => XS.dnegS X.here C.1 rfl (hb C.2.2.1 hd.1) rfl rfl k) (by rw [hd.2] at g; exact g)
theorem wdadd (C : Cur p l e s m meth c Z bc ml own nm rt) (X : Stand p l e R s m args below meth c T locs cells slots) {x y : UInt64} (hd : Dec bc pc (.dadd) 1 pc') {v : UInt64} (hv : FP.dadd x y = v) (hn : Jvm.Free.Fl.NoNaN64 v) (g : Go p e below s Q kC kS T (mkF m pc' Ls (.double v :: S))) : Go p e below s Q kC kS T (mkF m pc Ls (.double y :: .double x :: S)) :=
  Go.step (fun _ k => XS.daddS X.here C.1 rfl (hb C.2.2.1 hd.1) rfl (by rw [hv]; exact hn) hv k) (by rw [hd.2] at g; exact g)
theorem wdsub (C : Cur p l e s m meth c Z bc ml own nm rt) (X : Stand p l e R s m args below meth c T locs cells slots) {x y : UInt64} (hd : Dec bc pc (.dsub) 1 pc') {v : UInt64} (hv : FP.dsub x y = v) (hn : Jvm.Free.Fl.NoNaN64 v) (g : Go p e below s Q kC kS T (mkF m pc' Ls (.double v :: S))) : Go p e below s Q kC kS T (mkF m pc Ls (.double y :: .double x :: S)) :=
  Go.step (fun _ k => XS.dsubS X.here C.1 rfl (hb C.2.2.1 hd.1) rfl (by rw [hv]; exact hn) hv k) (by rw [hd.2] at g; exact g)
theorem wdmul (C : Cur p l e s m meth c Z bc ml own nm rt) (X : Stand p l e R s m args below meth c T locs cells slots) {x y : UInt64} (hd : Dec bc pc (.dmul) 1 pc') {v : UInt64} (hv : FP.dmul x y = v) (hn : Jvm.Free.Fl.NoNaN64 v) (g : Go p e below s Q kC kS T (mkF m pc' Ls (.double v :: S))) : Go p e below s Q kC kS T (mkF m pc Ls (.double y :: .double x :: S)) :=
  Go.step (fun _ k => XS.dmulS X.here C.1 rfl (hb C.2.2.1 hd.1) rfl (by rw [hv]; exact hn) hv k) (by rw [hd.2] at g; exact g)
theorem wddiv (C : Cur p l e s m meth c Z bc ml own nm rt) (X : Stand p l e R s m args below meth c T locs cells slots) {x y : UInt64} (hd : Dec bc pc (.ddiv) 1 pc') {v : UInt64} (hv : FP.ddiv x y = v) (hn : Jvm.Free.Fl.NoNaN64 v) (g : Go p e below s Q kC kS T (mkF m pc' Ls (.double v :: S))) : Go p e below s Q kC kS T (mkF m pc Ls (.double y :: .double x :: S)) :=
  Go.step (fun _ k => XS.ddivS X.here C.1 rfl (hb C.2.2.1 hd.1) rfl (by rw [hv]; exact hn) hv k) (by rw [hd.2] at g; exact g)
theorem wdcmp (C : Cur p l e s m meth c Z bc ml own nm rt) (X : Stand p l e R s m args below meth c T locs cells slots) {o : CmpOp} {x y : UInt64} (hd : Dec bc pc (.dcmp o) 1 pc') {v : Int32} (hv : cmpValue (FP.dcmp x y) o = v) (g : Go p e below s Q kC kS T (mkF m pc' Ls (.int v :: S))) : Go p e below s Q kC kS T (mkF m pc Ls (.double y :: .double x :: S)) :=
  Go.step (fun _ k => XS.dcmpS X.here C.1 rfl (hb C.2.2.1 hd.1) rfl hv k) (by rw [hd.2] at g; exact g)
theorem wlcmp (C : Cur p l e s m meth c Z bc ml own nm rt) (X : Stand p l e R s m args below meth c T locs cells slots) {x y : Int64} (hd : Dec bc pc (.lcmp) 1 pc') (g : Go p e below s Q kC kS T (mkF m pc' Ls (.int (lcmpW x y) :: S))) : Go p e below s Q kC kS T (mkF m pc Ls (.long y :: .long x :: S)) :=
  Go.step (fun _ k => XS.lcmp X.here C.1 rfl (hb C.2.2.1 hd.1) rfl k) (by rw [hd.2] at g; exact g)
theorem wdup (C : Cur p l e s m meth c Z bc ml own nm rt) (X : Stand p l e R s m args below meth c T locs cells slots) {v : Value} (hd : Dec bc pc (.dup) 1 pc') (hc : v.category = 1) (g : Go p e below s Q kC kS T (mkF m pc' Ls (v :: v :: S))) : Go p e below s Q kC kS T (mkF m pc Ls (v :: S)) :=
  Go.step (fun _ k => XS.dup X.here C.1 rfl (hb C.2.2.1 hd.1) rfl hc k) (by rw [hd.2] at g; exact g)
theorem wdupX1 (C : Cur p l e s m meth c Z bc ml own nm rt) (X : Stand p l e R s m args below meth c T locs cells slots) {v u : Value} (hd : Dec bc pc (.dup_x1) 1 pc') (hc : v.category = 1) (hc' : u.category = 1) (g : Go p e below s Q kC kS T (mkF m pc' Ls (v :: u :: v :: S))) : Go p e below s Q kC kS T (mkF m pc Ls (v :: u :: S)) :=
  Go.step (fun _ k => XS.dupX1 X.here C.1 rfl (hb C.2.2.1 hd.1) rfl hc hc' k) (by rw [hd.2] at g; exact g)
theorem wdup2 (C : Cur p l e s m meth c Z bc ml own nm rt) (X : Stand p l e R s m args below meth c T locs cells slots) {v u : Value} (hd : Dec bc pc (.dup2) 1 pc') (hc : v.category = 1) (hc' : u.category = 1) (g : Go p e below s Q kC kS T (mkF m pc' Ls (v :: u :: v :: u :: S))) : Go p e below s Q kC kS T (mkF m pc Ls (v :: u :: S)) :=
  Go.step (fun _ k => Jvm.Free.XT.dup2 X.here C.1 rfl (hb C.2.2.1 hd.1) rfl hc hc' k) (by rw [hd.2] at g; exact g)
theorem wpop (C : Cur p l e s m meth c Z bc ml own nm rt) (X : Stand p l e R s m args below meth c T locs cells slots) {v : Value} (hd : Dec bc pc (.pop) 1 pc') (hc : v.category = 1) (g : Go p e below s Q kC kS T (mkF m pc' Ls S)) : Go p e below s Q kC kS T (mkF m pc Ls (v :: S)) :=
  Go.step (fun _ k => XS.pop X.here C.1 rfl (hb C.2.2.1 hd.1) rfl hc k) (by rw [hd.2] at g; exact g)
theorem wiinc (C : Cur p l e s m meth c Z bc ml own nm rt) (X : Stand p l e R s m args below meth c T locs cells slots) {k : Nat} {cst : Int} {x : Int32} (hd : Dec bc pc (.iinc k cst) 3 pc') (z : Int32) (hz : x + Int32.ofInt cst = z) (hl : Ls[k]? = some (.val (.int x))) (l' : Array Slot) (hl' : storeLocals Ls k (.int z) = some l') (g : Go p e below s Q kC kS T (mkF m pc' l' S)) : Go p e below s Q kC kS T (mkF m pc Ls S) :=
  Go.step (fun _ k => XS.iinc X.here C.1 rfl (hb C.2.2.1 hd.1) hl (by rw [hz]; exact hl') k) (by rw [hd.2] at g; exact g)
theorem wgoto (C : Cur p l e s m meth c Z bc ml own nm rt) (X : Stand p l e R s m args below meth c T locs cells slots) {o : Int} {tgt nxt : Nat} (hd : DecJ bc pc (.goto o) o tgt nxt) (g : Go p e below s Q kC kS T (mkF m tgt Ls S)) : Go p e below s Q kC kS T (mkF m pc Ls S) :=
  Go.step (fun _ k => XS.goto X.here C.1 rfl (pc0 := pc) (pc' := tgt) rfl (hb C.2.2.1 hd.1) hd.2.1 hd.2.2.1 k) g
theorem wicmp_lt (C : Cur p l e s m meth c Z bc ml own nm rt) (X : Stand p l e R s m args below meth c T locs cells slots) {x y : Int32} {o : Int} {tgt nxt : Nat} (hd : DecJ bc pc (.if_icmp .lt o) o tgt nxt) (hp : x < y → Go p e below s Q kC kS T (mkF m tgt Ls S)) (hn : ¬ x < y → Go p e below s Q kC kS T (mkF m nxt Ls S)) : Go p e below s Q kC kS T (mkF m pc Ls (.int y :: .int x :: S)) := by
  by_cases h : x < y
  · have g := hp h
    exact Go.step (fun _ k => XS.icmpYes X.here C.1 rfl (pc0 := pc) (pc' := tgt) rfl (hb C.2.2.1 hd.1) rfl (tlt h).1 hd.2.1 hd.2.2.1 k) g
  · have g := hn h
    rw [hd.2.2.2] at g; exact Go.step (fun _ k => XS.icmpNo X.here C.1 rfl (hb C.2.2.1 hd.1) rfl (flt h).1 k) g
theorem wif_lt (C : Cur p l e s m meth c Z bc ml own nm rt) (X : Stand p l e R s m args below meth c T locs cells slots) {x : Int32} {o : Int} {tgt nxt : Nat} (hd : DecJ bc pc (.ifCond .lt o) o tgt nxt) (hp : x < (0 : Int32) → Go p e below s Q kC kS T (mkF m tgt Ls S)) (hn : ¬ x < (0 : Int32) → Go p e below s Q kC kS T (mkF m nxt Ls S)) : Go p e below s Q kC kS T (mkF m pc Ls (.int x :: S)) := by
  by_cases h : x < (0 : Int32)
  · have g := hp h
    exact Go.step (fun _ k => XS.ifYes X.here C.1 rfl (pc0 := pc) (pc' := tgt) rfl (hb C.2.2.1 hd.1) rfl ((if0 _ _).trans (tlt h).1) hd.2.1 hd.2.2.1 k) g
  · have g := hn h
    rw [hd.2.2.2] at g; exact Go.step (fun _ k => XS.ifNo X.here C.1 rfl (hb C.2.2.1 hd.1) rfl ((if0 _ _).trans (flt h).1) k) g
theorem wicmp_ge (C : Cur p l e s m meth c Z bc ml own nm rt) (X : Stand p l e R s m args below meth c T locs cells slots) {x y : Int32} {o : Int} {tgt nxt : Nat} (hd : DecJ bc pc (.if_icmp .ge o) o tgt nxt) (hp : x < y → Go p e below s Q kC kS T (mkF m nxt Ls S)) (hn : ¬ x < y → Go p e below s Q kC kS T (mkF m tgt Ls S)) : Go p e below s Q kC kS T (mkF m pc Ls (.int y :: .int x :: S)) := by
  by_cases h : x < y
  · have g := hp h
    rw [hd.2.2.2] at g; exact Go.step (fun _ k => XS.icmpNo X.here C.1 rfl (hb C.2.2.1 hd.1) rfl (tlt h).2.1 k) g
  · have g := hn h
    exact Go.step (fun _ k => XS.icmpYes X.here C.1 rfl (pc0 := pc) (pc' := tgt) rfl (hb C.2.2.1 hd.1) rfl (flt h).2.1 hd.2.1 hd.2.2.1 k) g
theorem wif_ge (C : Cur p l e s m meth c Z bc ml own nm rt) (X : Stand p l e R s m args below meth c T locs cells slots) {x : Int32} {o : Int} {tgt nxt : Nat} (hd : DecJ bc pc (.ifCond .ge o) o tgt nxt) (hp : x < (0 : Int32) → Go p e below s Q kC kS T (mkF m nxt Ls S)) (hn : ¬ x < (0 : Int32) → Go p e below s Q kC kS T (mkF m tgt Ls S)) : Go p e below s Q kC kS T (mkF m pc Ls (.int x :: S)) := by
  by_cases h : x < (0 : Int32)
  · have g := hp h
    rw [hd.2.2.2] at g; exact Go.step (fun _ k => XS.ifNo X.here C.1 rfl (hb C.2.2.1 hd.1) rfl ((if0 _ _).trans (tlt h).2.1) k) g
  · have g := hn h
    exact Go.step (fun _ k => XS.ifYes X.here C.1 rfl (pc0 := pc) (pc' := tgt) rfl (hb C.2.2.1 hd.1) rfl ((if0 _ _).trans (flt h).2.1) hd.2.1 hd.2.2.1 k) g
theorem wicmp_gt (C : Cur p l e s m meth c Z bc ml own nm rt) (X : Stand p l e R s m args below meth c T locs cells slots) {x y : Int32} {o : Int} {tgt nxt : Nat} (hd : DecJ bc pc (.if_icmp .gt o) o tgt nxt) (hp : y < x → Go p e below s Q kC kS T (mkF m tgt Ls S)) (hn : ¬ y < x → Go p e below s Q kC kS T (mkF m nxt Ls S)) : Go p e below s Q kC kS T (mkF m pc Ls (.int y :: .int x :: S)) := by
  by_cases h : y < x
  · have g := hp h
    exact Go.step (fun _ k => XS.icmpYes X.here C.1 rfl (pc0 := pc) (pc' := tgt) rfl (hb C.2.2.1 hd.1) rfl (tlt h).2.2.1 hd.2.1 hd.2.2.1 k) g
  · have g := hn h
    rw [hd.2.2.2] at g; exact Go.step (fun _ k => XS.icmpNo X.here C.1 rfl (hb C.2.2.1 hd.1) rfl (flt h).2.2.1 k) g
theorem wif_gt (C : Cur p l e s m meth c Z bc ml own nm rt) (X : Stand p l e R s m args below meth c T locs cells slots) {x : Int32} {o : Int} {tgt nxt : Nat} (hd : DecJ bc pc (.ifCond .gt o) o tgt nxt) (hp : (0 : Int32) < x → Go p e below s Q kC kS T (mkF m tgt Ls S)) (hn : ¬ (0 : Int32) < x → Go p e below s Q kC kS T (mkF m nxt Ls S)) : Go p e below s Q kC kS T (mkF m pc Ls (.int x :: S)) := by
  by_cases h : (0 : Int32) < x
  · have g := hp h
    exact Go.step (fun _ k => XS.ifYes X.here C.1 rfl (pc0 := pc) (pc' := tgt) rfl (hb C.2.2.1 hd.1) rfl ((if0 _ _).trans (tlt h).2.2.1) hd.2.1 hd.2.2.1 k) g
  · have g := hn h
    rw [hd.2.2.2] at g; exact Go.step (fun _ k => XS.ifNo X.here C.1 rfl (hb C.2.2.1 hd.1) rfl ((if0 _ _).trans (flt h).2.2.1) k) g
theorem wicmp_le (C : Cur p l e s m meth c Z bc ml own nm rt) (X : Stand p l e R s m args below meth c T locs cells slots) {x y : Int32} {o : Int} {tgt nxt : Nat} (hd : DecJ bc pc (.if_icmp .le o) o tgt nxt) (hp : y < x → Go p e below s Q kC kS T (mkF m nxt Ls S)) (hn : ¬ y < x → Go p e below s Q kC kS T (mkF m tgt Ls S)) : Go p e below s Q kC kS T (mkF m pc Ls (.int y :: .int x :: S)) := by
  by_cases h : y < x
  · have g := hp h
    rw [hd.2.2.2] at g; exact Go.step (fun _ k => XS.icmpNo X.here C.1 rfl (hb C.2.2.1 hd.1) rfl (tlt h).2.2.2 k) g
  · have g := hn h
    exact Go.step (fun _ k => XS.icmpYes X.here C.1 rfl (pc0 := pc) (pc' := tgt) rfl (hb C.2.2.1 hd.1) rfl (flt h).2.2.2 hd.2.1 hd.2.2.1 k) g
theorem wif_le (C : Cur p l e s m meth c Z bc ml own nm rt) (X : Stand p l e R s m args below meth c T locs cells slots) {x : Int32} {o : Int} {tgt nxt : Nat} (hd : DecJ bc pc (.ifCond .le o) o tgt nxt) (hp : (0 : Int32) < x → Go p e below s Q kC kS T (mkF m nxt Ls S)) (hn : ¬ (0 : Int32) < x → Go p e below s Q kC kS T (mkF m tgt Ls S)) : Go p e below s Q kC kS T (mkF m pc Ls (.int x :: S)) := by
  by_cases h : (0 : Int32) < x
  · have g := hp h
    rw [hd.2.2.2] at g; exact Go.step (fun _ k => XS.ifNo X.here C.1 rfl (hb C.2.2.1 hd.1) rfl ((if0 _ _).trans (tlt h).2.2.2) k) g
  · have g := hn h
    exact Go.step (fun _ k => XS.ifYes X.here C.1 rfl (pc0 := pc) (pc' := tgt) rfl (hb C.2.2.1 hd.1) rfl ((if0 _ _).trans (flt h).2.2.2) hd.2.1 hd.2.2.1 k) g
theorem wicmp_eq (C : Cur p l e s m meth c Z bc ml own nm rt) (X : Stand p l e R s m args below meth c T locs cells slots) {x y : Int32} {o : Int} {tgt nxt : Nat} (hd : DecJ bc pc (.if_icmp .eq o) o tgt nxt) (hp : x = y → Go p e below s Q kC kS T (mkF m tgt Ls S)) (hn : ¬ x = y → Go p e below s Q kC kS T (mkF m nxt Ls S)) : Go p e below s Q kC kS T (mkF m pc Ls (.int y :: .int x :: S)) := by
  by_cases h : x = y
  · have g := hp h
    exact Go.step (fun _ k => XS.icmpYes X.here C.1 rfl (pc0 := pc) (pc' := tgt) rfl (hb C.2.2.1 hd.1) rfl (teq h).1 hd.2.1 hd.2.2.1 k) g
  · have g := hn h
    rw [hd.2.2.2] at g; exact Go.step (fun _ k => XS.icmpNo X.here C.1 rfl (hb C.2.2.1 hd.1) rfl (feq h).1 k) g
theorem wif_eq (C : Cur p l e s m meth c Z bc ml own nm rt) (X : Stand p l e R s m args below meth c T locs cells slots) {x : Int32} {o : Int} {tgt nxt : Nat} (hd : DecJ bc pc (.ifCond .eq o) o tgt nxt) (hp : x = (0 : Int32) → Go p e below s Q kC kS T (mkF m tgt Ls S)) (hn : ¬ x = (0 : Int32) → Go p e below s Q kC kS T (mkF m nxt Ls S)) : Go p e below s Q kC kS T (mkF m pc Ls (.int x :: S)) := by
  by_cases h : x = (0 : Int32)
  · have g := hp h
    exact Go.step (fun _ k => XS.ifYes X.here C.1 rfl (pc0 := pc) (pc' := tgt) rfl (hb C.2.2.1 hd.1) rfl ((if0 _ _).trans (teq h).1) hd.2.1 hd.2.2.1 k) g
  · have g := hn h
    rw [hd.2.2.2] at g; exact Go.step (fun _ k => XS.ifNo X.here C.1 rfl (hb C.2.2.1 hd.1) rfl ((if0 _ _).trans (feq h).1) k) g
theorem wicmp_ne (C : Cur p l e s m meth c Z bc ml own nm rt) (X : Stand p l e R s m args below meth c T locs cells slots) {x y : Int32} {o : Int} {tgt nxt : Nat} (hd : DecJ bc pc (.if_icmp .ne o) o tgt nxt) (hp : x = y → Go p e below s Q kC kS T (mkF m nxt Ls S)) (hn : ¬ x = y → Go p e below s Q kC kS T (mkF m tgt Ls S)) : Go p e below s Q kC kS T (mkF m pc Ls (.int y :: .int x :: S)) := by
  by_cases h : x = y
  · have g := hp h
    rw [hd.2.2.2] at g; exact Go.step (fun _ k => XS.icmpNo X.here C.1 rfl (hb C.2.2.1 hd.1) rfl (teq h).2 k) g
  · have g := hn h
    exact Go.step (fun _ k => XS.icmpYes X.here C.1 rfl (pc0 := pc) (pc' := tgt) rfl (hb C.2.2.1 hd.1) rfl (feq h).2 hd.2.1 hd.2.2.1 k) g
theorem wif_ne (C : Cur p l e s m meth c Z bc ml own nm rt) (X : Stand p l e R s m args below meth c T locs cells slots) {x : Int32} {o : Int} {tgt nxt : Nat} (hd : DecJ bc pc (.ifCond .ne o) o tgt nxt) (hp : x = (0 : Int32) → Go p e below s Q kC kS T (mkF m nxt Ls S)) (hn : ¬ x = (0 : Int32) → Go p e below s Q kC kS T (mkF m tgt Ls S)) : Go p e below s Q kC kS T (mkF m pc Ls (.int x :: S)) := by
  by_cases h : x = (0 : Int32)
  · have g := hp h
    rw [hd.2.2.2] at g; exact Go.step (fun _ k => XS.ifNo X.here C.1 rfl (hb C.2.2.1 hd.1) rfl ((if0 _ _).trans (teq h).2) k) g
  · have g := hn h
    exact Go.step (fun _ k => XS.ifYes X.here C.1 rfl (pc0 := pc) (pc' := tgt) rfl (hb C.2.2.1 hd.1) rfl ((if0 _ _).trans (feq h).2) hd.2.1 hd.2.2.1 k) g
theorem wacmp_eq (C : Cur p l e s m meth c Z bc ml own nm rt) (X : Stand p l e R s m args below meth c T locs cells slots) {x y : Value} (h1 : x.isRef = true) (h2 : y.isRef = true) {o : Int} {tgt nxt : Nat} (hd : DecJ bc pc (.if_acmp .eq o) o tgt nxt) (hp : x = y → Go p e below s Q kC kS T (mkF m tgt Ls S)) (hn : ¬ x = y → Go p e below s Q kC kS T (mkF m nxt Ls S)) : Go p e below s Q kC kS T (mkF m pc Ls (y :: x :: S)) := by
  by_cases h : x = y
  · have g := hp h
    exact Go.step (fun _ k => Jvm.RoadKit.acmp X C.1 rfl h1 h2 (pc0 := pc) (pc' := tgt) (same := true) rfl (hb C.2.2.1 hd.1) rfl (decide_eq_true h) hd.2.1 (by rw [hd.2.2.1]; rfl) k) g
  · have g := hn h
    exact Go.step (fun _ k => Jvm.RoadKit.acmp X C.1 rfl h1 h2 (pc0 := pc) (pc' := nxt) (same := false) rfl (hb C.2.2.1 hd.1) rfl (decide_eq_false h) hd.2.1 (by rw [hd.2.2.2]; rfl) k) g
theorem wacmp_ne (C : Cur p l e s m meth c Z bc ml own nm rt) (X : Stand p l e R s m args below meth c T locs cells slots) {x y : Value} (h1 : x.isRef = true) (h2 : y.isRef = true) {o : Int} {tgt nxt : Nat} (hd : DecJ bc pc (.if_acmp .ne o) o tgt nxt) (hp : x = y → Go p e below s Q kC kS T (mkF m nxt Ls S)) (hn : ¬ x = y → Go p e below s Q kC kS T (mkF m tgt Ls S)) : Go p e below s Q kC kS T (mkF m pc Ls (y :: x :: S)) := by
  by_cases h : x = y
  · have g := hp h
    exact Go.step (fun _ k => Jvm.RoadKit.acmp X C.1 rfl h1 h2 (pc0 := pc) (pc' := nxt) (same := true) rfl (hb C.2.2.1 hd.1) rfl (decide_eq_true h) hd.2.1 (by rw [hd.2.2.2]; rfl) k) g
  · have g := hn h
    exact Go.step (fun _ k => Jvm.RoadKit.acmp X C.1 rfl h1 h2 (pc0 := pc) (pc' := tgt) (same := false) rfl (hb C.2.2.1 hd.1) rfl (decide_eq_false h) hd.2.1 (by rw [hd.2.2.1]; rfl) k) g
theorem wifnullY (C : Cur p l e s m meth c Z bc ml own nm rt) (X : Stand p l e R s m args below meth c T locs cells slots) {b : Addr} {o : Int} {tgt nxt : Nat} (hd : DecJ bc pc (.ifnull o) o tgt nxt) (g : Go p e below s Q kC kS T (mkF m tgt Ls S)) : Go p e below s Q kC kS T (mkF m pc Ls (.null :: S)) :=
  Go.step (fun _ k => XS.ifnullYes X.here C.1 rfl (pc0 := pc) (pc' := tgt) rfl (hb C.2.2.1 hd.1) rfl hd.2.1 hd.2.2.1 k) g
theorem wifnullN (C : Cur p l e s m meth c Z bc ml own nm rt) (X : Stand p l e R s m args below meth c T locs cells slots) {b : Addr} {o : Int} {tgt nxt : Nat} (hd : DecJ bc pc (.ifnull o) o tgt nxt) (g : Go p e below s Q kC kS T (mkF m nxt Ls S)) : Go p e below s Q kC kS T (mkF m pc Ls (.ref b :: S)) := by
  rw [hd.2.2.2] at g
  exact Go.step (fun _ k => XS.ifnullNo X.here C.1 rfl (hb C.2.2.1 hd.1) rfl k) g
theorem wifnonnullY (C : Cur p l e s m meth c Z bc ml own nm rt) (X : Stand p l e R s m args below meth c T locs cells slots) {b : Addr} {o : Int} {tgt nxt : Nat} (hd : DecJ bc pc (.ifnonnull o) o tgt nxt) (g : Go p e below s Q kC kS T (mkF m tgt Ls S)) : Go p e below s Q kC kS T (mkF m pc Ls (.ref b :: S)) :=
  Go.step (fun _ k => XS.ifnonnullYes X.here C.1 rfl (pc0 := pc) (pc' := tgt) rfl (hb C.2.2.1 hd.1) rfl hd.2.1 hd.2.2.1 k) g
theorem wifnonnullN (C : Cur p l e s m meth c Z bc ml own nm rt) (X : Stand p l e R s m args below meth c T locs cells slots) {b : Addr} {o : Int} {tgt nxt : Nat} (hd : DecJ bc pc (.ifnonnull o) o tgt nxt) (g : Go p e below s Q kC kS T (mkF m nxt Ls S)) : Go p e below s Q kC kS T (mkF m pc Ls (.null :: S)) := by
  rw [hd.2.2.2] at g
  exact Go.step (fun _ k => XS.ifnonnullNo X.here C.1 rfl (hb C.2.2.1 hd.1) rfl k) g
theorem wret (C : Cur p l e s m meth c Z bc ml own nm rt) (X : Stand p l e R s m args below meth c T locs cells slots) (hd : Dec bc pc .return_ 1 pc') (hrt : rt = none) (hk : cells ≤ kC) (hn : slots ≤ kS) (q : Q none T.heap locs) : Go p e below s Q kC kS T (mkF m pc Ls []) := by
  subst hrt
  obtain ⟨fs, hr, hrun, hended, hW, hsame⟩ := X.leave (v := none) (fun _ => rfl) C.2.2.2.2.2.2.1
  exact ⟨_, _, X.returnOut C.1 C.2.2.2.2.2.1 (hb C.2.2.1 hd.1) hr, hrun, hended, none, _, rfl, q, ⟨_, rfl⟩, hW, hsame.mono hk hn⟩
theorem wretV (C : Cur p l e s m meth c Z bc ml own nm rt) (X : Stand p l e R s m args below meth c T locs cells slots) {w : Value} {t : FieldType} {i : Instr} (hd : Dec bc pc i 1 pc') (hrt : rt = some t) (hnw : narrow t w = w)
    (hi : (i = .ireturn ∧ (t = .int ∨ t = .boolean ∨ t = .byte ∨ t = .char ∨ t = .short) ∧ ∃ z, w = .int z) ∨ (i = .lreturn ∧ t = .long ∧ ∃ z, w = .long z) ∨ (i = .dreturn ∧ t = .double ∧ ∃ z, w = .double z) ∨ (i = .freturn ∧ t = .float ∧ ∃ z, w = .float z) ∨ (i = .areturn ∧ t.isReference = true ∧ w.isRef = true))
    (hk : cells ≤ kC) (hn : slots ≤ kS) (q : Q (some w) T.heap locs) : Go p e below s Q kC kS T (mkF m pc Ls (w :: S)) := by
  subst hrt
  obtain ⟨fs, hr, hrun, hended, hW, hsame⟩ := X.leave (v := some w) (fun h => by rw [C.2.2.2.2.2.1] at h; cases h) C.2.2.2.2.2.2.1
  exact ⟨_, _, retOut X C.1 C.2.2.2.2.2.1 hnw hi (hb C.2.2.1 hd.1) hr, hrun, hended, some w, _, rfl, q, ⟨_, rfl⟩, hW, hsame.mono hk hn⟩
theorem wiret (C : Cur p l e s m meth c Z bc ml own nm rt) (X : Stand p l e R s m args below meth c T locs cells slots) {z : Int32} (hd : Dec bc pc .ireturn 1 pc') (hrt : rt = some .int) (hk : cells ≤ kC) (hn : slots ≤ kS) (q : Q (some (.int z)) T.heap locs) : Go p e below s Q kC kS T (mkF m pc Ls (.int z :: S)) :=
  wretV C X hd hrt rfl (Or.inl ⟨rfl, Or.inl rfl, z, rfl⟩) hk hn q
theorem wiretN (C : Cur p l e s m meth c Z bc ml own nm rt) (X : Stand p l e R s m args below meth c T locs cells slots) {z : Int32} {t : FieldType} (ht : t = .boolean ∨ t = .byte ∨ t = .char ∨ t = .short) (hd : Dec bc pc .ireturn 1 pc') (hrt : rt = some t) (z' : Int32) (hz : nar t z = z') (hk : cells ≤ kC) (hn : slots ≤ kS) (q : Q (some (.int z')) T.heap locs) : Go p e below s Q kC kS T (mkF m pc Ls (.int z :: S)) := by
  subst hrt hz
  obtain ⟨fs, hr, hrun, hended, hW, hsame⟩ := X.leave (v := some (.int (nar t z))) (fun h => by rw [C.2.2.2.2.2.1] at h; cases h) C.2.2.2.2.2.2.1
  exact ⟨_, _, retN X C.1 (t := t) C.2.2.2.2.2.1 ht (hb C.2.2.1 hd.1) hr, hrun, hended, some _, _, rfl, q, ⟨_, rfl⟩, hW, hsame.mono hk hn⟩
theorem wlret (C : Cur p l e s m meth c Z bc ml own nm rt) (X : Stand p l e R s m args below meth c T locs cells slots) {z : Int64} (hd : Dec bc pc .lreturn 1 pc') (hrt : rt = some .long) (hk : cells ≤ kC) (hn : slots ≤ kS) (q : Q (some (.long z)) T.heap locs) : Go p e below s Q kC kS T (mkF m pc Ls (.long z :: S)) :=
  wretV C X hd hrt rfl (Or.inr (Or.inl ⟨rfl, rfl, z, rfl⟩)) hk hn q
theorem wdret (C : Cur p l e s m meth c Z bc ml own nm rt) (X : Stand p l e R s m args below meth c T locs cells slots) {z : UInt64} (hd : Dec bc pc .dreturn 1 pc') (hrt : rt = some .double) (hk : cells ≤ kC) (hn : slots ≤ kS) (q : Q (some (.double z)) T.heap locs) : Go p e below s Q kC kS T (mkF m pc Ls (.double z :: S)) :=
  wretV C X hd hrt rfl (Or.inr (Or.inr (Or.inl ⟨rfl, rfl, z, rfl⟩))) hk hn q
theorem waret (C : Cur p l e s m meth c Z bc ml own nm rt) (X : Stand p l e R s m args below meth c T locs cells slots) {w : Value} {t : FieldType} (hd : Dec bc pc .areturn 1 pc') (hrt : rt = some t) (ht : t.isReference = true) (hw : w.isRef = true) (hnw : narrow t w = w) (hk : cells ≤ kC) (hn : slots ≤ kS) (q : Q (some w) T.heap locs) : Go p e below s Q kC kS T (mkF m pc Ls (w :: S)) :=
  wretV C X hd hrt hnw (Or.inr (Or.inr (Or.inr (Or.inr ⟨rfl, ht, hw⟩)))) hk hn q
theorem wget (C : Cur p l e s m meth c Z bc ml own nm rt) (X : Stand p l e R s m args below meth c T locs cells slots) {R0 O n d host : String} {index : Nat} (w : (Jvm.Cond.fieldLink own index R0 n d).before a0 Z = true ∨ (Jvm.Cond.fieldLinkNest own index R0 n d host).before a0 Z = true) (via : Via Z R0 O n d) (eT : T.heap = h) {a : Addr} {v : Value} (F : Fld Z h a O n d v) (hd : Dec bc pc (.getfield index) 3 pc')
    (K : ∀ T' : State, Stand p l e R s m args below meth c T' locs cells slots → T'.heap = h → Go p e below s Q kC kS T' (mkF m pc' Ls (v :: S))) : Go p e below s Q kC kS T (mkF m pc Ls (.ref a :: S)) := by
  obtain ⟨T', X', e', st⟩ := getF X C.1 C.2.1 C.2.2.2.2.1 w via eT F (g := mkF m pc Ls (.ref a :: S)) rfl rfl (hb C.2.2.1 hd.1)
  have k := K T' X' e'
  rw [hd.2] at k
  exact Go.step st k
theorem wgets (C : Cur p l e s m meth c Z bc ml own nm rt) (X : Stand p l e R s m args below meth c T locs cells slots) {R0 O n d host : String} {index : Nat} (w : (Jvm.Cond.fieldLink own index R0 n d).before a0 Z = true ∨ (Jvm.Cond.fieldLinkNest own index R0 n d host).before a0 Z = true) (via : Via Z R0 O n d) (eT : T.heap = h) {v : Value} (F : Sta Z h O n d v) (hd : Dec bc pc (.getstatic index) 3 pc')
    (K : ∀ T' : State, Stand p l e R s m args below meth c T' locs cells slots → T'.heap = h → Go p e below s Q kC kS T' (mkF m pc' Ls (v :: S))) : Go p e below s Q kC kS T (mkF m pc Ls S) := by
  obtain ⟨T', X', e', st⟩ := getS2 X C.1 C.2.1 C.2.2.2.2.1 w via eT F (g := mkF m pc Ls S) rfl (hb C.2.2.1 hd.1)
  have k := K T' X' e'
  rw [hd.2] at k
  exact Go.step st k
theorem wput (C : Cur p l e s m meth c Z bc ml own nm rt) (X : Stand p l e R s m args below meth c T locs cells slots) {R0 O n d host C0 : String} {index kk : Nat} {ty : FieldType} (w : (Jvm.Cond.fieldLink own index R0 n d).before a0 Z = true ∨ (Jvm.Cond.fieldLinkNest own index R0 n d host).before a0 Z = true) (via : Via Z R0 O n d) (eT : T.heap = h) {a : Addr} {v old : Value} (F : Fld Z h a O n d old) (E : Exa Z h a C0)
    (L : (Jvm.Cond.lays C0 O n d).before a0 Z = true ∨ ((Jvm.Cond.laysFinal C0 O n d).before a0 Z = true ∧ own = O ∧ nm = "<init>")) (wi : (Jvm.Cond.instantiable C0 kk).before a0 Z = true) (hty : parseFieldDescriptor d = some ty) (hn : narrow ty v = v) (hf : fits ty v = true) (hd : Dec bc pc (.putfield index) 3 pc')
    (K : ∀ (T' : State) (h' : Heap), Stand p l e R s m args below meth c T' (locs ++ [⟨a, Jvm.RoadKit.slotOf Z O n d⟩]) cells slots → T'.heap = h' → Wr h h' a (Jvm.RoadKit.slotOf Z O n d) v → Go p e below s Q kC kS T' (mkF m pc' Ls S)) : Go p e below s Q kC kS T (mkF m pc Ls (v :: .ref a :: S)) := by
  obtain ⟨T', h', X', e', W, st⟩ := putF X C.1 C.2.1 C.2.2.2.2.1 w via eT F E (L.imp id fun q => ⟨q.1, q.2.1, C.2.2.2.2.2.2.2.trans q.2.2⟩) wi hty hn hf (g := mkF m pc Ls (v :: .ref a :: S)) rfl rfl (hb C.2.2.1 hd.1)
  have k := K T' h' X' e' W
  rw [hd.2] at k
  exact Go.step st k
theorem wputN (C : Cur p l e s m meth c Z bc ml own nm rt) (X : Stand p l e R s m args below meth c T locs cells slots) {R0 O n d C0 : String} {index kk : Nat} {ty : FieldType} (w : (Jvm.Cond.fieldLink own index R0 n d).before a0 Z = true) (via : Via Z R0 O n d) (eT : T.heap = h) {a : Addr} {v old : Value} (F : Fld Z h a O n d old) (E : Exa Z h a C0)
    (L : (Jvm.Cond.lays C0 O n d).before a0 Z = true ∨ ((Jvm.Cond.laysFinal C0 O n d).before a0 Z = true ∧ own = O ∧ nm = "<init>")) (wi : (Jvm.Cond.instantiable C0 kk).before a0 Z = true) (hty : parseFieldDescriptor d = some ty) (v' : Value) (hn : narrow ty v = v') (hf : fits ty v' = true) (hd : Dec bc pc (.putfield index) 3 pc')
    (K : ∀ (T' : State) (h' : Heap), Stand p l e R s m args below meth c T' (locs ++ [⟨a, Jvm.RoadKit.slotOf Z O n d⟩]) cells slots → T'.heap = h' → Wr h h' a (Jvm.RoadKit.slotOf Z O n d) v' → Go p e below s Q kC kS T' (mkF m pc' Ls S)) : Go p e below s Q kC kS T (mkF m pc Ls (v :: .ref a :: S)) := by
  obtain ⟨T', h', X', e', W, st⟩ := putFN X C.1 C.2.1 C.2.2.2.2.1 w via eT F E (L.imp id fun q => ⟨q.1, q.2.1, C.2.2.2.2.2.2.2.trans q.2.2⟩) wi hty hn hf (g := mkF m pc Ls (v :: .ref a :: S)) rfl rfl (hb C.2.2.1 hd.1)
  have k := K T' h' X' e' W
  rw [hd.2] at k
  exact Go.step st k
theorem wnew (C : Cur p l e s m meth c Z bc ml own nm rt) (X : Stand p l e R s m args below meth c T locs cells slots) {C0 : String} {index n : Nat} (w : (Jvm.Cond.classLink own index C0).before a0 Z = true) (wi : (Jvm.Cond.instantiable C0 n).before a0 Z = true) (wz : (Jvm.Cond.initialized C0).before a0 Z = true) (eT : T.heap = h) (hd : Dec bc pc (.new index) 3 pc') (hc : cells + 1 ≤ R.cells) (hl : slots + n ≤ R.slots)
    (K : ∀ (T' : State) (h' : Heap) (a : Addr), a = h.size → Stand p l e R s m args below meth c T' locs (cells + 1) (slots + n) → T'.heap = h' → Ext h h' → Exa Z h' a C0 → (∀ {O nm d : String} {ty : FieldType}, Laid Z a0 C0 O nm d → parseFieldDescriptor d = some ty → Fld Z h' a O nm d (defaultValue ty)) → Go p e below s Q kC kS T' (mkF m pc' Ls (.ref a :: S))) : Go p e below s Q kC kS T (mkF m pc Ls S) := by
  obtain ⟨T', h', X', e', E, A, D, -, st⟩ := newO X C.1 C.2.1 C.2.2.2.2.1 w wi wz eT (g := mkF m pc Ls S) rfl (hb C.2.2.1 hd.1) hc hl
  have k := K T' h' _ rfl X' e' E A D
  rw [hd.2] at k
  exact Go.step st k
theorem wnewarr (C : Cur p l e s m meth c Z bc ml own nm rt) (X : Stand p l e R s m args below meth c T locs cells slots) {aty : ArrayType} (w : (Jvm.Cond.arrayClass (newarray.typeOf aty)).before a0 Z = true) (eT : T.heap = h) {n : Int32} (hd : Dec bc pc (.newarray aty) 2 pc') (hn : ¬ n < 0) {cap : Nat} (hcap : n.toNatClampNeg ≤ cap) (hb' : cap * 8 ≤ 536870912) (hc : cells + 1 ≤ R.cells) (hl : slots + cap ≤ R.slots)
    (K : ∀ (T' : State) (h' : Heap) (a : Addr) (k : ClassId), a = h.size → Stand p l e R s m args below meth c T' locs (cells + 1) (slots + cap) → T'.heap = h' → Ext h h' → Arv Z h' a k (newarray.typeOf aty) n [] (defaultValue (newarray.typeOf aty)) → Go p e below s Q kC kS T' (mkF m pc' Ls (.ref a :: S))) : Go p e below s Q kC kS T (mkF m pc Ls (.int n :: S)) := by
  obtain ⟨T', h', kA, X', e', E, A, st⟩ := newP X C.1 C.2.1 w eT (g := mkF m pc Ls (.int n :: S)) rfl (hb C.2.2.1 hd.1) rfl hn hcap hb' hc hl
  have k := K T' h' _ kA rfl X' e' E (Arv.new A hn)
  rw [hd.2] at k
  exact Go.step st k
theorem wiaload (C : Cur p l e s m meth c Z bc ml own nm rt) (X : Stand p l e R s m args below meth c T locs cells slots) (eT : T.heap = h) {a : Addr} {ka : ClassId} {n j : Int32} {vs : List Value} {dv : Value} (V : Arv Z h a ka .int n vs dv) (hd : Dec bc pc .iaload 1 pc') (hj : ¬ j < 0 ∧ j < n) {i : Nat} (hi : j.toNatClampNeg = i) {v : Int32} (hv : vs.getD i dv = .int v) (g : Go p e below s Q kC kS T (mkF m pc' Ls (.int v :: S))) : Go p e below s Q kC kS T (mkF m pc Ls (.int j :: .ref a :: S)) := by
  obtain ⟨cl, A, -, hS, -, hH, -⟩ := V
  have hin := inb_of hS hj
  rw [hd.2] at g
  exact Go.step (fun t k => X.iaload C.1 (by rw [eT]; exact A.1) (State.isArrayOf_alike C.2.1.alike A.2.1) A.2.2 hin (hH.at hin (by rw [hi]; exact hv)) (g := mkF m pc Ls (.int j :: .ref a :: S)) rfl rfl (hb C.2.2.1 hd.1) t k) g
theorem wlaload (C : Cur p l e s m meth c Z bc ml own nm rt) (X : Stand p l e R s m args below meth c T locs cells slots) (eT : T.heap = h) {a : Addr} {ka : ClassId} {n j : Int32} {vs : List Value} {dv : Value} (V : Arv Z h a ka .long n vs dv) (hd : Dec bc pc .laload 1 pc') (hj : ¬ j < 0 ∧ j < n) {i : Nat} (hi : j.toNatClampNeg = i) {v : Int64} (hv : vs.getD i dv = .long v) (g : Go p e below s Q kC kS T (mkF m pc' Ls (.long v :: S))) : Go p e below s Q kC kS T (mkF m pc Ls (.int j :: .ref a :: S)) := by
  obtain ⟨cl, A, -, hS, -, hH, -⟩ := V
  have hin := inb_of hS hj
  rw [hd.2] at g
  exact Go.step (fun t k => X.laload C.1 (by rw [eT]; exact A.1) (State.isArrayOf_alike C.2.1.alike A.2.1) A.2.2 hin (hH.at hin (by rw [hi]; exact hv)) (g := mkF m pc Ls (.int j :: .ref a :: S)) rfl rfl (hb C.2.2.1 hd.1) t k) g
theorem wdaload (C : Cur p l e s m meth c Z bc ml own nm rt) (X : Stand p l e R s m args below meth c T locs cells slots) (eT : T.heap = h) {a : Addr} {ka : ClassId} {n j : Int32} {vs : List Value} {dv : Value} (V : Arv Z h a ka .double n vs dv) (hd : Dec bc pc .daload 1 pc') (hj : ¬ j < 0 ∧ j < n) {i : Nat} (hi : j.toNatClampNeg = i) {v : UInt64} (hv : vs.getD i dv = .double v) (g : Go p e below s Q kC kS T (mkF m pc' Ls (.double v :: S))) : Go p e below s Q kC kS T (mkF m pc Ls (.int j :: .ref a :: S)) := by
  obtain ⟨cl, A, -, hS, -, hH, -⟩ := V
  have hin := inb_of hS hj
  rw [hd.2] at g
  exact Go.step (fun t k => X.daload C.1 (by rw [eT]; exact A.1) (State.isArrayOf_alike C.2.1.alike A.2.1) A.2.2 hin (hH.at hin (by rw [hi]; exact hv)) (g := mkF m pc Ls (.int j :: .ref a :: S)) rfl rfl (hb C.2.2.1 hd.1) t k) g
theorem wcaload (C : Cur p l e s m meth c Z bc ml own nm rt) (X : Stand p l e R s m args below meth c T locs cells slots) (eT : T.heap = h) {a : Addr} {ka : ClassId} {n j : Int32} {vs : List Value} {dv : Value} (V : Arv Z h a ka .char n vs dv) (hd : Dec bc pc .caload 1 pc') (hj : ¬ j < 0 ∧ j < n) {i : Nat} (hi : j.toNatClampNeg = i) {v : Int32} (hv : vs.getD i dv = .int v) (g : Go p e below s Q kC kS T (mkF m pc' Ls (.int v :: S))) : Go p e below s Q kC kS T (mkF m pc Ls (.int j :: .ref a :: S)) := by
  obtain ⟨cl, A, -, hS, -, hH, -⟩ := V
  have hin := inb_of hS hj
  rw [hd.2] at g
  exact Go.step (fun t k => X.caload C.1 (by rw [eT]; exact A.1) (State.isArrayOf_alike C.2.1.alike A.2.1) A.2.2 hin (hH.at hin (by rw [hi]; exact hv)) (g := mkF m pc Ls (.int j :: .ref a :: S)) rfl rfl (hb C.2.2.1 hd.1) t k) g
theorem wbaloadB (C : Cur p l e s m meth c Z bc ml own nm rt) (X : Stand p l e R s m args below meth c T locs cells slots) (eT : T.heap = h) {a : Addr} {ka : ClassId} {n j : Int32} {vs : List Value} {dv : Value} (V : Arv Z h a ka .byte n vs dv) (hd : Dec bc pc .baload 1 pc') (hj : ¬ j < 0 ∧ j < n) {i : Nat} (hi : j.toNatClampNeg = i) {v : Int32} (hv : vs.getD i dv = .int v) (g : Go p e below s Q kC kS T (mkF m pc' Ls (.int v :: S))) : Go p e below s Q kC kS T (mkF m pc Ls (.int j :: .ref a :: S)) := by
  obtain ⟨cl, A, -, hS, -, hH, -⟩ := V
  have hin := inb_of hS hj
  rw [hd.2] at g
  exact Go.step (fun t k => X.baloadBytes C.1 (by rw [eT]; exact A.1) (State.isArrayOf_alike C.2.1.alike A.2.1) A.2.2 hin (hH.at hin (by rw [hi]; exact hv)) (g := mkF m pc Ls (.int j :: .ref a :: S)) rfl rfl (hb C.2.2.1 hd.1) t k) g
theorem wbaloadZ (C : Cur p l e s m meth c Z bc ml own nm rt) (X : Stand p l e R s m args below meth c T locs cells slots) (eT : T.heap = h) {a : Addr} {ka : ClassId} {n j : Int32} {vs : List Value} {dv : Value} (V : Arv Z h a ka .boolean n vs dv) (hd : Dec bc pc .baload 1 pc') (hj : ¬ j < 0 ∧ j < n) {i : Nat} (hi : j.toNatClampNeg = i) {v : Int32} (hv : vs.getD i dv = .int v) (g : Go p e below s Q kC kS T (mkF m pc' Ls (.int v :: S))) : Go p e below s Q kC kS T (mkF m pc Ls (.int j :: .ref a :: S)) := by
  obtain ⟨cl, A, -, hS, -, hH, -⟩ := V
  have hin := inb_of hS hj
  rw [hd.2] at g
  exact Go.step (fun t k => X.baloadBooleans C.1 (by rw [eT]; exact A.1) (State.isArrayOf_alike C.2.1.alike A.2.1) A.2.2 hin (hH.at hin (by rw [hi]; exact hv)) (g := mkF m pc Ls (.int j :: .ref a :: S)) rfl rfl (hb C.2.2.1 hd.1) t k) g
theorem waaload (C : Cur p l e s m meth c Z bc ml own nm rt) (X : Stand p l e R s m args below meth c T locs cells slots) (eT : T.heap = h) {a : Addr} {ka : ClassId} {ty : FieldType} {n j : Int32} {vs : List Value} {dv : Value} (V : Arv Z h a ka ty n vs dv) (hty : ty.isReference = true) (hd : Dec bc pc .aaload 1 pc') (hj : ¬ j < 0 ∧ j < n) {i : Nat} (hi : j.toNatClampNeg = i) {v : Value} (hv : vs.getD i dv = v) (g : Go p e below s Q kC kS T (mkF m pc' Ls (v :: S))) : Go p e below s Q kC kS T (mkF m pc Ls (.int j :: .ref a :: S)) := by
  obtain ⟨cl, A, -, hS, -, hH, -⟩ := V
  have hin := inb_of hS hj
  rw [hd.2] at g
  exact Go.step (fun t k => X.aaload C.1 (by rw [eT]; exact A.1) (State.isArrayOf_alike C.2.1.alike A.2.1) hty A.2.2 hin (hH.at hin (by rw [hi]; exact hv)) (g := mkF m pc Ls (.int j :: .ref a :: S)) rfl rfl (hb C.2.2.1 hd.1) t k) g
theorem walen (C : Cur p l e s m meth c Z bc ml own nm rt) (X : Stand p l e R s m args below meth c T locs cells slots) (eT : T.heap = h) {a : Addr} {ka : ClassId} {ty : FieldType} {n : Int32} {vs : List Value} {dv : Value} (V : Arv Z h a ka ty n vs dv) (hd : Dec bc pc .arraylength 1 pc') (g : Go p e below s Q kC kS T (mkF m pc' Ls (.int n :: S))) : Go p e below s Q kC kS T (mkF m pc Ls (.ref a :: S)) := by
  obtain ⟨cl, A, -, hS, hN, -, -⟩ := V
  rw [hd.2] at g
  exact Go.step (fun t k => X.arraylength C.1 (by rw [eT]; exact A.1) (State.isArrayOf_alike C.2.1.alike A.2.1) (g := mkF m pc Ls (.ref a :: S)) rfl rfl (hb C.2.2.1 hd.1) t (by rw [len_of hS hN]; exact k)) g
theorem wiastore (C : Cur p l e s m meth c Z bc ml own nm rt) (X : Stand p l e R s m args below meth c T locs cells slots) (eT : T.heap = h) {a : Addr} {ka : ClassId} {n j : Int32} {x : Int32} {vs : List Value} {dv : Value} (V : Arv Z h a ka .int n vs dv) (hd : Dec bc pc .iastore 1 pc') (hj : ¬ j < 0 ∧ j < n) (i : Nat) (hi : j.toNatClampNeg = i) (hlt : i < vs.length) (vs' : List Value) (hs : vs.set i (.int x) = vs')
    (K : ∀ (T' : State) (h' : Heap) (sl : Nat) (w : Value), Stand p l e R s m args below meth c T' (locs ++ [⟨a, sl⟩]) cells slots → T'.heap = h' → Wr h h' a sl w → Arv Z h' a ka .int n vs' dv → Go p e below s Q kC kS T' (mkF m pc' Ls S)) : Go p e below s Q kC kS T (mkF m pc Ls (.int x :: .int j :: .ref a :: S)) := by
  obtain ⟨cl, A, hk, hS, hN, hH, hG⟩ := V
  have hin := inb_of hS hj
  obtain ⟨T', h', X', e', W, st⟩ := stI X C.1 C.2.1 eT A hin (g := mkF m pc Ls (.int x :: .int j :: .ref a :: S)) rfl rfl (hb C.2.2.1 hd.1)
  have V' := Arv.set A hk hS hN hH hG rfl W i hi hlt
  subst hs
  have k := K T' h' _ _ X' e' W V'
  rw [hd.2] at k
  exact Go.step st k
theorem wlastore (C : Cur p l e s m meth c Z bc ml own nm rt) (X : Stand p l e R s m args below meth c T locs cells slots) (eT : T.heap = h) {a : Addr} {ka : ClassId} {n j : Int32} {x : Int64} {vs : List Value} {dv : Value} (V : Arv Z h a ka .long n vs dv) (hd : Dec bc pc .lastore 1 pc') (hj : ¬ j < 0 ∧ j < n) (i : Nat) (hi : j.toNatClampNeg = i) (hlt : i < vs.length) (vs' : List Value) (hs : vs.set i (.long x) = vs')
    (K : ∀ (T' : State) (h' : Heap) (sl : Nat) (w : Value), Stand p l e R s m args below meth c T' (locs ++ [⟨a, sl⟩]) cells slots → T'.heap = h' → Wr h h' a sl w → Arv Z h' a ka .long n vs' dv → Go p e below s Q kC kS T' (mkF m pc' Ls S)) : Go p e below s Q kC kS T (mkF m pc Ls (.long x :: .int j :: .ref a :: S)) := by
  obtain ⟨cl, A, hk, hS, hN, hH, hG⟩ := V
  have hin := inb_of hS hj
  obtain ⟨T', h', X', e', W, st⟩ := stJ X C.1 C.2.1 eT A hin (g := mkF m pc Ls (.long x :: .int j :: .ref a :: S)) rfl rfl (hb C.2.2.1 hd.1)
  have V' := Arv.set A hk hS hN hH hG rfl W i hi hlt
  subst hs
  have k := K T' h' _ _ X' e' W V'
  rw [hd.2] at k
  exact Go.step st k
theorem wdastore (C : Cur p l e s m meth c Z bc ml own nm rt) (X : Stand p l e R s m args below meth c T locs cells slots) (eT : T.heap = h) {a : Addr} {ka : ClassId} {n j : Int32} {x : UInt64} {vs : List Value} {dv : Value} (V : Arv Z h a ka .double n vs dv) (hd : Dec bc pc .dastore 1 pc') (hj : ¬ j < 0 ∧ j < n) (i : Nat) (hi : j.toNatClampNeg = i) (hlt : i < vs.length) (vs' : List Value) (hs : vs.set i (.double x) = vs')
    (K : ∀ (T' : State) (h' : Heap) (sl : Nat) (w : Value), Stand p l e R s m args below meth c T' (locs ++ [⟨a, sl⟩]) cells slots → T'.heap = h' → Wr h h' a sl w → Arv Z h' a ka .double n vs' dv → Go p e below s Q kC kS T' (mkF m pc' Ls S)) : Go p e below s Q kC kS T (mkF m pc Ls (.double x :: .int j :: .ref a :: S)) := by
  obtain ⟨cl, A, hk, hS, hN, hH, hG⟩ := V
  have hin := inb_of hS hj
  obtain ⟨T', h', X', e', W, st⟩ := stD X C.1 C.2.1 eT A hin (g := mkF m pc Ls (.double x :: .int j :: .ref a :: S)) rfl rfl (hb C.2.2.1 hd.1)
  have V' := Arv.set A hk hS hN hH hG rfl W i hi hlt
  subst hs
  have k := K T' h' _ _ X' e' W V'
  rw [hd.2] at k
  exact Go.step st k
theorem wcastore (C : Cur p l e s m meth c Z bc ml own nm rt) (X : Stand p l e R s m args below meth c T locs cells slots) (eT : T.heap = h) {a : Addr} {ka : ClassId} {n j : Int32} {x : Int32} {vs : List Value} {dv : Value} (V : Arv Z h a ka .char n vs dv) (hd : Dec bc pc .castore 1 pc') (hj : ¬ j < 0 ∧ j < n) (i : Nat) (hi : j.toNatClampNeg = i) (hlt : i < vs.length) (vs' : List Value) (hs : vs.set i (.int (nar .char x)) = vs')
    (K : ∀ (T' : State) (h' : Heap) (sl : Nat) (w : Value), Stand p l e R s m args below meth c T' (locs ++ [⟨a, sl⟩]) cells slots → T'.heap = h' → Wr h h' a sl w → Arv Z h' a ka .char n vs' dv → Go p e below s Q kC kS T' (mkF m pc' Ls S)) : Go p e below s Q kC kS T (mkF m pc Ls (.int x :: .int j :: .ref a :: S)) := by
  obtain ⟨cl, A, hk, hS, hN, hH, hG⟩ := V
  have hin := inb_of hS hj
  obtain ⟨T', h', X', e', W, st⟩ := stC X C.1 C.2.1 eT A hin (g := mkF m pc Ls (.int x :: .int j :: .ref a :: S)) rfl rfl (hb C.2.2.1 hd.1)
  have V' := Arv.set A hk hS hN hH hG (fits_nar_char _) W i hi hlt
  subst hs
  have k := K T' h' _ _ X' e' W V'
  rw [hd.2] at k
  exact Go.step st k
theorem wbastoreB (C : Cur p l e s m meth c Z bc ml own nm rt) (X : Stand p l e R s m args below meth c T locs cells slots) (eT : T.heap = h) {a : Addr} {ka : ClassId} {n j : Int32} {x : Int32} {vs : List Value} {dv : Value} (V : Arv Z h a ka .byte n vs dv) (hd : Dec bc pc .bastore 1 pc') (hj : ¬ j < 0 ∧ j < n) (i : Nat) (hi : j.toNatClampNeg = i) (hlt : i < vs.length) (vs' : List Value) (hs : vs.set i (.int x.toInt8.toInt32) = vs')
    (K : ∀ (T' : State) (h' : Heap) (sl : Nat) (w : Value), Stand p l e R s m args below meth c T' (locs ++ [⟨a, sl⟩]) cells slots → T'.heap = h' → Wr h h' a sl w → Arv Z h' a ka .byte n vs' dv → Go p e below s Q kC kS T' (mkF m pc' Ls S)) : Go p e below s Q kC kS T (mkF m pc Ls (.int x :: .int j :: .ref a :: S)) := by
  obtain ⟨cl, A, hk, hS, hN, hH, hG⟩ := V
  have hin := inb_of hS hj
  obtain ⟨T', h', X', e', W, st⟩ := stB X C.1 C.2.1 eT A hin (g := mkF m pc Ls (.int x :: .int j :: .ref a :: S)) rfl rfl (hb C.2.2.1 hd.1)
  have V' := Arv.set A hk hS hN hH hG (fits_nar_byte _) W i hi hlt
  subst hs
  have k := K T' h' _ _ X' e' W V'
  rw [hd.2] at k
  exact Go.step st k
theorem wbastoreZ (C : Cur p l e s m meth c Z bc ml own nm rt) (X : Stand p l e R s m args below meth c T locs cells slots) (eT : T.heap = h) {a : Addr} {ka : ClassId} {n j : Int32} {x : Int32} {vs : List Value} {dv : Value} (V : Arv Z h a ka .boolean n vs dv) (hd : Dec bc pc .bastore 1 pc') (hj : ¬ j < 0 ∧ j < n) (i : Nat) (hi : j.toNatClampNeg = i) (hlt : i < vs.length) (vs' : List Value) (hs : vs.set i (.int (nar .boolean x)) = vs')
    (K : ∀ (T' : State) (h' : Heap) (sl : Nat) (w : Value), Stand p l e R s m args below meth c T' (locs ++ [⟨a, sl⟩]) cells slots → T'.heap = h' → Wr h h' a sl w → Arv Z h' a ka .boolean n vs' dv → Go p e below s Q kC kS T' (mkF m pc' Ls S)) : Go p e below s Q kC kS T (mkF m pc Ls (.int x :: .int j :: .ref a :: S)) := by
  obtain ⟨cl, A, hk, hS, hN, hH, hG⟩ := V
  have hin := inb_of hS hj
  obtain ⟨T', h', X', e', W, st⟩ := stZ X C.1 C.2.1 eT A hin (g := mkF m pc Ls (.int x :: .int j :: .ref a :: S)) rfl rfl (hb C.2.2.1 hd.1)
  have V' := Arv.set A hk hS hN hH hG (fits_nar_bool _) W i hi hlt
  subst hs
  have k := K T' h' _ _ X' e' W V'
  rw [hd.2] at k
  exact Go.step st k
theorem winitO (C : Cur p l e s m meth c Z bc ml own nm rt) (X : Stand p l e R s m args below meth c T locs cells slots) {index : Nat} (w1 : (Jvm.Cond.methodLink own index Lib.objectInit).before a0 Z = true) (w2 : (Jvm.Cond.instanceMethod Lib.objectInit).before a0 Z = true) (w3 : (Jvm.Cond.code Lib.objectInit ⟨#[0xb1]⟩ 1 none).before a0 Z = true) (eT : T.heap = h) {a : Addr} (hd : Dec bc pc (.invokespecial index) 3 pc') (hsz : Ls.size = ml) (hf : 1 ≤ R.frames) {W : Nat} (hW : (S.map fun v => v.category).sum ≤ W) (hl : W + 12 ≤ R.locals)
    (K : ∀ T' : State, Stand p l e R s m args below meth c T' locs cells slots → T'.heap = h → Go p e below s Q kC kS T' (mkF m pc' Ls S)) : Go p e below s Q kC kS T (mkF m pc Ls (.ref a :: S)) := by
  obtain ⟨T', X', e', st⟩ := initO X C.1 C.2.1 C.2.2.2.2.1 w1 w2 w3 eT (g := mkF m pc Ls (.ref a :: S)) rfl (hsz.trans C.2.2.2.1.symm) rfl (hb C.2.2.1 hd.1) hf (W := W) (by show 2 * 0 + _ ≤ _; simpa using hW) hl
  have k := K T' X' e'
  rw [hd.2] at k
  exact Go.step st k
theorem wspecial (C : Cur p l e s m meth c Z bc ml own nm rt) (X : Stand p l e R s m args below meth c T locs cells slots) {y : MethodName} {bytes : ByteArray} {maxL : Nat} {ret : Option FieldType} {rm : Room} {as' : Array Value} {Qc : Option Value → Heap → List Loc → Prop} {index : Nat} (hy1 : y.name = "<init>") (w1 : (Jvm.Cond.methodLink own index y).before a0 Z = true) (w2 : (Jvm.Cond.instanceMethod y).before a0 Z = true) (w3 : (Jvm.Cond.code y bytes maxL ret).before a0 Z = true) (w4 : (Jvm.Cond.initialized y.cls).before a0 Z = true) (hret : ret = none) (hy : y.cls ≠ "java/lang/invoke/MethodHandle" ∧ y.cls ≠ "java/lang/invoke/VarHandle")
    (hM : MetFree l y (head1 [Jvm.Cond.code y bytes maxL ret] rm) (fun a U => a = as' ∧ Z.Warmed39 U.vm ∧ U.heap = h) (fun _ _ _ _ _ => True) (fun _ U o U' => ∃ v L, o = .returned v ∧ Qc v U'.heap L ∧ FrameEnd U o U' L rm.cells rm.slots)) (eT : T.heap = h) (hd : Dec bc pc (.invokespecial index) 3 pc') {a : Addr} {argsL rest St : List Value} (has : as' = (.ref a :: argsL).toArray) (hst : St = argsL.reverse ++ .ref a :: rest) (hlen : ∀ sig, parseMethodDescriptor y.desc = some sig → argsL.length = sig.parameters.length) (hsz : Ls.size = ml) {W : Nat} (hW : (rest.map fun v => v.category).sum ≤ W) (hf : rm.frames + 1 ≤ R.frames) (hl : W + (maxL + 11) + rm.locals ≤ R.locals) (hc : cells + rm.cells ≤ R.cells) (hs : slots + rm.slots ≤ R.slots)
    (K : ∀ (v : Option Value) (T' : State) (L' : List Loc), Stand p l e R s m args below meth c T' (locs ++ L') (cells + rm.cells) (slots + rm.slots) → Qc v T'.heap L' → Go p e below s Q kC kS T' (mkF m pc' Ls (v.toList ++ rest))) : Go p e below s Q kC kS T (mkF m pc Ls St) := by
  subst hret
  obtain ⟨v, _, ⟨T', L', k', n'⟩, -, X', ⟨Lc, hQ, l', y', z'⟩, st⟩ := X.specialBack C.1 (y := y) hy1 C.2.2.2.2.1 (mvT C.2.1 w1) (mvT C.2.1 w2) (mvT C.2.1 w3) hy (backOf (W := W) hM C.2.1 w3 w4 hf hl) (g := mkF m pc Ls St) rfl (hsz.trans C.2.2.2.1.symm) (Steps.refl _) (a := a) (argsL := argsL) (rest := rest) hlen hst (by show 2 * 0 + _ ≤ _; simpa using hW) (hb C.2.2.1 hd.1) (fun _ _ => ⟨has.symm, eT, hc, hs⟩)
  dsimp only [Pt.U, Pt.locs, Pt.cells, Pt.slots] at X' l' y' z' st hQ
  subst l' y' z'
  have k := K v T' Lc X' hQ
  rw [hd.2] at k
  exact Go.step (fun t k => st.trans k) k
theorem wvirtual (C : Cur p l e s m meth c Z bc ml own nm rt) (X : Stand p l e R s m args below meth c T locs cells slots) {y z : MethodName} {C0 : String} {bytes : ByteArray} {maxL : Nat} {ret : Option FieldType} {rm : Room} {as' : Array Value} {Qc : Option Value → Heap → List Loc → Prop} {index : Nat} (w1 : (Jvm.Cond.methodLink own index y).before a0 Z = true) (w2 : (Jvm.Cond.declares y).before a0 Z = true) (hnf : NotFace s y) (w3 : (Jvm.Cond.selects C0 y z).before a0 Z = true) (w4 : (Jvm.Cond.instanceMethod z).before a0 Z = true) (w5 : (Jvm.Cond.code z bytes maxL ret).before a0 Z = true) (w6 : (Jvm.Cond.initialized z.cls).before a0 Z = true) (hy : y.cls ≠ "java/lang/invoke/MethodHandle" ∧ y.cls ≠ "java/lang/invoke/VarHandle")
    (hM : MetFree l z (head1 [Jvm.Cond.code z bytes maxL ret] rm) (fun a U => a = as' ∧ Z.Warmed39 U.vm ∧ U.heap = h) (fun _ _ _ _ _ => True) (fun _ U o U' => ∃ v L, o = .returned v ∧ Qc v U'.heap L ∧ FrameEnd U o U' L rm.cells rm.slots)) (eT : T.heap = h) {a : Addr} (E : Exa Z h a C0) (hd : Dec bc pc (.invokevirtual index) 3 pc') {argsL rest St : List Value} (has : as' = (.ref a :: argsL).toArray) (hst : St = argsL.reverse ++ .ref a :: rest) (hlen : ∀ sig, parseMethodDescriptor y.desc = some sig → argsL.length = sig.parameters.length) (hsz : Ls.size = ml) {W : Nat} (hW : (rest.map fun v => v.category).sum ≤ W) (hf : rm.frames + 1 ≤ R.frames) (hl : W + (maxL + 11) + rm.locals ≤ R.locals) (hc : cells + rm.cells ≤ R.cells) (hs : slots + rm.slots ≤ R.slots)
    (K : ∀ (v : Option Value) (T' : State) (L' : List Loc), Stand p l e R s m args below meth c T' (locs ++ L') (cells + rm.cells) (slots + rm.slots) → Qc v T'.heap L' → Go p e below s Q kC kS T' (mkF m pc' Ls (v.toList ++ rest))) : Go p e below s Q kC kS T (mkF m pc Ls St) := by
  obtain ⟨cB, kB, q1, q2, q3⟩ := isOf C.2.1 eT E
  obtain ⟨v, _, ⟨T', L', k', n'⟩, -, X', ⟨Lc, hQ, l', y', z'⟩, st⟩ := X.virtualBack C.1 (y := y) (z := z) C.2.2.2.2.1 (mvT C.2.1 w1) (mvT C.2.1 w2) hnf (mvT C.2.1 w3) (mvT C.2.1 w4) hy (backOf (W := W) hM C.2.1 w5 w6 hf hl) q1 q3 (g := mkF m pc Ls St) rfl (hsz.trans C.2.2.2.1.symm) (Steps.refl _) (argsL := argsL) (rest := rest) hlen hst (by show 2 * 0 + _ ≤ _; simpa using hW) (hb C.2.2.1 hd.1) (fun _ _ => ⟨has.symm, eT, hc, hs⟩)
  dsimp only [Pt.U, Pt.locs, Pt.cells, Pt.slots] at X' l' y' z' st hQ
  subst l' y' z'
  have k := K v T' Lc X' hQ
  rw [hd.2] at k
  exact Go.step (fun t k => st.trans k) k
theorem own_selp {y : MethodName} {nI : Nat} (hZ : Z.Warmed39 s.vm) (wi : (Jvm.Cond.instantiable y.cls nI).before a0 Z = true) (wp : (Jvm.Cond.privateMethod y).before a0 Z = true) (w2 : (Jvm.Cond.instanceMethod y).before a0 Z = true) (hy : y.cls ≠ "java/lang/invoke/MethodHandle" ∧ y.cls ≠ "java/lang/invoke/VarHandle") : (Jvm.Cond.selects y.cls y y).before args s = true := by
  obtain ⟨c', k', h1, h2, -, h4, -⟩ := Cond.instantiable_spec (mvT (args := args) hZ wi)
  exact selects_self_of_private h1 h2 (by simp only [Bool.or_eq_false_iff] at h4; exact h4.1) (Cond.privateMethod_at (mvP hZ wp (args := args))) (mvT hZ w2) hy
theorem wprivate (C : Cur p l e s m meth c Z bc ml own nm rt) (X : Stand p l e R s m args below meth c T locs cells slots) {y : MethodName} {bytes : ByteArray} {maxL : Nat} {ret : Option FieldType} {rm : Room} {as' : Array Value} {Qc : Option Value → Heap → List Loc → Prop} {index : Nat} (w1 : (Jvm.Cond.methodLink own index y).before a0 Z = true) (w2 : (Jvm.Cond.instanceMethod y).before a0 Z = true) (w3 : (Jvm.Cond.selects y.cls y y).before a0 Z = true) (w4 : (Jvm.Cond.privateMethod y).before a0 Z = true) (w5 : (Jvm.Cond.code y bytes maxL ret).before a0 Z = true) (w6 : (Jvm.Cond.initialized y.cls).before a0 Z = true) (hy : y.cls ≠ "java/lang/invoke/MethodHandle" ∧ y.cls ≠ "java/lang/invoke/VarHandle")
    (hM : MetFree l y (head1 [Jvm.Cond.code y bytes maxL ret] rm) (fun a U => a = as' ∧ Z.Warmed39 U.vm ∧ U.heap = h) (fun _ _ _ _ _ => True) (fun _ U o U' => ∃ v L, o = .returned v ∧ Qc v U'.heap L ∧ FrameEnd U o U' L rm.cells rm.slots)) (eT : T.heap = h) {a : Addr} {C0 : String} (E : Exa Z h a C0) (hd : Dec bc pc (.invokevirtual index) 3 pc') {argsL rest St : List Value} (has : as' = (.ref a :: argsL).toArray) (hst : St = argsL.reverse ++ .ref a :: rest) (hlen : ∀ sig, parseMethodDescriptor y.desc = some sig → argsL.length = sig.parameters.length) (hsz : Ls.size = ml) {W : Nat} (hW : (rest.map fun v => v.category).sum ≤ W) (hf : rm.frames + 1 ≤ R.frames) (hl : W + (maxL + 11) + rm.locals ≤ R.locals) (hc : cells + rm.cells ≤ R.cells) (hs : slots + rm.slots ≤ R.slots)
    (K : ∀ (v : Option Value) (T' : State) (L' : List Loc), Stand p l e R s m args below meth c T' (locs ++ L') (cells + rm.cells) (slots + rm.slots) → Qc v T'.heap L' → Go p e below s Q kC kS T' (mkF m pc' Ls (v.toList ++ rest))) : Go p e below s Q kC kS T (mkF m pc Ls St) := by
  obtain ⟨cq, q1, q2⟩ := E.cell
  obtain ⟨v, _, ⟨T', L', k', n'⟩, -, X', ⟨Lc, hQ, l', y', z'⟩, st⟩ := X.privateBack C.1 (y := y) C.2.2.2.2.1 (mvT C.2.1 w1) (mvT C.2.1 w2) (mvT C.2.1 w3) (Cond.privateMethod_at (mvP C.2.1 w4 (args := #[]))) (mvT C.2.1 w5) hy (backOf (W := W) hM C.2.1 w5 w6 hf hl) (g := mkF m pc Ls St) rfl (hsz.trans C.2.2.2.1.symm) (Steps.refl _) (a := a) (by rw [eT]; exact q1) q2 (argsL := argsL) (rest := rest) hlen hst (by show 2 * 0 + _ ≤ _; simpa using hW) (hb C.2.2.1 hd.1) (fun _ _ => ⟨has.symm, eT, hc, hs⟩)
  dsimp only [Pt.U, Pt.locs, Pt.cells, Pt.slots] at X' l' y' z' st hQ
  subst l' y' z'
  have k := K v T' Lc X' hQ
  rw [hd.2] at k
  exact Go.step (fun t k => st.trans k) k
theorem wprivateI (C : Cur p l e s m meth c Z bc ml own nm rt) (X : Stand p l e R s m args below meth c T locs cells slots) {y : MethodName} {bytes : ByteArray} {maxL : Nat} {ret : Option FieldType} {rm : Room} {as' : Array Value} {Qc : Option Value → Heap → List Loc → Prop} {index : Nat} (w1 : (Jvm.Cond.methodLink own index y).before a0 Z = true) (w2 : (Jvm.Cond.instanceMethod y).before a0 Z = true) {nI : Nat} (w3 : (Jvm.Cond.instantiable y.cls nI).before a0 Z = true) (w4 : (Jvm.Cond.privateMethod y).before a0 Z = true) (w5 : (Jvm.Cond.code y bytes maxL ret).before a0 Z = true) (w6 : (Jvm.Cond.initialized y.cls).before a0 Z = true) (hy : y.cls ≠ "java/lang/invoke/MethodHandle" ∧ y.cls ≠ "java/lang/invoke/VarHandle")
    (hM : MetFree l y (head1 [Jvm.Cond.code y bytes maxL ret] rm) (fun a U => a = as' ∧ Z.Warmed39 U.vm ∧ U.heap = h) (fun _ _ _ _ _ => True) (fun _ U o U' => ∃ v L, o = .returned v ∧ Qc v U'.heap L ∧ FrameEnd U o U' L rm.cells rm.slots)) (eT : T.heap = h) {a : Addr} {C0 : String} (E : Exa Z h a C0) (hd : Dec bc pc (.invokevirtual index) 3 pc') {argsL rest St : List Value} (has : as' = (.ref a :: argsL).toArray) (hst : St = argsL.reverse ++ .ref a :: rest) (hlen : ∀ sig, parseMethodDescriptor y.desc = some sig → argsL.length = sig.parameters.length) (hsz : Ls.size = ml) {W : Nat} (hW : (rest.map fun v => v.category).sum ≤ W) (hf : rm.frames + 1 ≤ R.frames) (hl : W + (maxL + 11) + rm.locals ≤ R.locals) (hc : cells + rm.cells ≤ R.cells) (hs : slots + rm.slots ≤ R.slots)
    (K : ∀ (v : Option Value) (T' : State) (L' : List Loc), Stand p l e R s m args below meth c T' (locs ++ L') (cells + rm.cells) (slots + rm.slots) → Qc v T'.heap L' → Go p e below s Q kC kS T' (mkF m pc' Ls (v.toList ++ rest))) : Go p e below s Q kC kS T (mkF m pc Ls St) := by
  obtain ⟨cq, q1, q2⟩ := E.cell
  obtain ⟨v, _, ⟨T', L', k', n'⟩, -, X', ⟨Lc, hQ, l', y', z'⟩, st⟩ := X.privateBack C.1 (y := y) C.2.2.2.2.1 (mvT C.2.1 w1) (mvT C.2.1 w2) (own_selp C.2.1 w3 w4 w2 hy) (Cond.privateMethod_at (mvP C.2.1 w4 (args := #[]))) (mvT C.2.1 w5) hy (backOf (W := W) hM C.2.1 w5 w6 hf hl) (g := mkF m pc Ls St) rfl (hsz.trans C.2.2.2.1.symm) (Steps.refl _) (a := a) (by rw [eT]; exact q1) q2 (argsL := argsL) (rest := rest) hlen hst (by show 2 * 0 + _ ≤ _; simpa using hW) (hb C.2.2.1 hd.1) (fun _ _ => ⟨has.symm, eT, hc, hs⟩)
  dsimp only [Pt.U, Pt.locs, Pt.cells, Pt.slots] at X' l' y' z' st hQ
  subst l' y' z'
  have k := K v T' Lc X' hQ
  rw [hd.2] at k
  exact Go.step (fun t k => st.trans k) k
theorem wstatic (C : Cur p l e s m meth c Z bc ml own nm rt) (X : Stand p l e R s m args below meth c T locs cells slots) {y : MethodName} {bytes : ByteArray} {maxL : Nat} {ret : Option FieldType} {rm : Room} {as' : Array Value} {Qc : Option Value → Heap → List Loc → Prop} {index : Nat} (w1 : (Jvm.Cond.methodLink own index y).before a0 Z = true) (w2 : (Jvm.Cond.static y).before a0 Z = true) (w3 : (Jvm.Cond.initialized y.cls).before a0 Z = true) (w4 : (Jvm.Cond.code y bytes maxL ret).before a0 Z = true) (hy : y.cls ≠ "java/lang/invoke/MethodHandle" ∧ y.cls ≠ "java/lang/invoke/VarHandle")
    (hM : MetFree l y (head1 [Jvm.Cond.code y bytes maxL ret] rm) (fun a U => a = as' ∧ Z.Warmed39 U.vm ∧ U.heap = h) (fun _ _ _ _ _ => True) (fun _ U o U' => ∃ v L, o = .returned v ∧ Qc v U'.heap L ∧ FrameEnd U o U' L rm.cells rm.slots)) (eT : T.heap = h) (hd : Dec bc pc (.invokestatic index) 3 pc') {argsL rest St : List Value} (has : as' = argsL.toArray) (hst : St = argsL.reverse ++ rest) (hlen : ∀ sig, parseMethodDescriptor y.desc = some sig → argsL.length = sig.parameters.length) (hsz : Ls.size = ml) {W : Nat} (hW : (rest.map fun v => v.category).sum ≤ W) (hf : rm.frames + 1 ≤ R.frames) (hl : W + (maxL + 11) + rm.locals ≤ R.locals) (hc : cells + rm.cells ≤ R.cells) (hs : slots + rm.slots ≤ R.slots)
    (K : ∀ (v : Option Value) (T' : State) (L' : List Loc), Stand p l e R s m args below meth c T' (locs ++ L') (cells + rm.cells) (slots + rm.slots) → Qc v T'.heap L' → Go p e below s Q kC kS T' (mkF m pc' Ls (v.toList ++ rest))) : Go p e below s Q kC kS T (mkF m pc Ls St) := by
  obtain ⟨v, _, ⟨T', L', k', n'⟩, -, X', ⟨Lc, hQ, l', y', z'⟩, st⟩ := Jvm.LawKit.callS X C.1 (y := y) C.2.2.2.2.1 (mvT C.2.1 w1) (mvT C.2.1 w2) (mvT C.2.1 w3) (mvT C.2.1 w4) hy (backOf (W := W) hM C.2.1 w4 w3 hf hl) (g := mkF m pc Ls St) rfl (hsz.trans C.2.2.2.1.symm) (argsL := argsL) (rest := rest) hlen hst (by show 2 * 0 + _ ≤ _; simpa using hW) (hb C.2.2.1 hd.1) (fun _ _ => ⟨has.symm, eT, hc, hs⟩)
  dsimp only [Pt.U, Pt.locs, Pt.cells, Pt.slots] at X' l' y' z' st hQ
  subst l' y' z'
  have k := K v T' Lc X' hQ
  rw [hd.2] at k
  exact Go.step (st) k
theorem Go.mono {Q' : Option Value → Heap → List Loc → Prop} {f : JFrame} (g : Go p e below s Q kC kS T f) (q : ∀ v h L, Q v h L → Q' v h L) : Go p e below s Q' kC kS T f := by
  obtain ⟨s₂, o, h1, h2, h3, v, L, h4, h5, h6⟩ := g; exact ⟨s₂, o, h1, h2, h3, v, L, h4, q _ _ _ h5, h6⟩
theorem wldcI (C : Cur p l e s m meth c Z bc ml own nm rt) (X : Stand p l e R s m args below meth c T locs cells slots) {index : Nat} {b : Int32} (w : (Jvm.Cond.constant own index b).before a0 Z = true) (hd : Dec bc pc (.ldc index) 2 pc') (g : Go p e below s Q kC kS T (mkF m pc' Ls (.int b :: S))) : Go p e below s Q kC kS T (mkF m pc Ls S) := by
  rw [hd.2] at g
  exact Go.step (X.ldcInt C.1 C.2.2.2.2.1 (mvT C.2.1 w) (g := mkF m pc Ls S) rfl (hb C.2.2.1 hd.1)) g
theorem wldcwI (C : Cur p l e s m meth c Z bc ml own nm rt) (X : Stand p l e R s m args below meth c T locs cells slots) {index : Nat} {b : Int32} (w : (Jvm.Cond.constant own index b).before a0 Z = true) (hd : Dec bc pc (.ldc_w index) 3 pc') (g : Go p e below s Q kC kS T (mkF m pc' Ls (.int b :: S))) : Go p e below s Q kC kS T (mkF m pc Ls S) := by
  rw [hd.2] at g
  exact Go.step (X.ldcwInt C.1 C.2.2.2.2.1 (mvT C.2.1 w) (g := mkF m pc Ls S) rfl (hb C.2.2.1 hd.1)) g
theorem wldc2J (C : Cur p l e s m meth c Z bc ml own nm rt) (X : Stand p l e R s m args below meth c T locs cells slots) {index : Nat} {b : Int64} (w : (Jvm.Cond.constantLong own index b).before a0 Z = true) (hd : Dec bc pc (.ldc2_w index) 3 pc') (g : Go p e below s Q kC kS T (mkF m pc' Ls (.long b :: S))) : Go p e below s Q kC kS T (mkF m pc Ls S) := by
  rw [hd.2] at g
  exact Go.step (X.ldc2Long C.1 C.2.2.2.2.1 (mvT C.2.1 w) (g := mkF m pc Ls S) rfl (hb C.2.2.1 hd.1)) g
theorem wldc2D (C : Cur p l e s m meth c Z bc ml own nm rt) (X : Stand p l e R s m args below meth c T locs cells slots) {index : Nat} {b : UInt64} (w : (Jvm.Cond.constantDouble own index b).before a0 Z = true) (hd : Dec bc pc (.ldc2_w index) 3 pc') (g : Go p e below s Q kC kS T (mkF m pc' Ls (.double b :: S))) : Go p e below s Q kC kS T (mkF m pc Ls S) := by
  rw [hd.2] at g
  exact Go.step (X.ldc2DoubleC C.1 C.2.2.2.2.1 (mvT C.2.1 w) (g := mkF m pc Ls S) rfl (hb C.2.2.1 hd.1)) g
theorem wmaxD (C : Cur p l e s m meth c Z bc ml own nm rt) (X : Stand p l e R s m args below meth c T locs cells slots) {index : Nat} {x y : UInt64} (w1 : (Jvm.Cond.methodLink own index Jvm.Free.Fl.Abs.maxDN).before a0 Z = true) (w2 : (Jvm.Cond.static Jvm.Free.Fl.Abs.maxDN).before a0 Z = true) (w3 : (Jvm.Cond.initialized Jvm.Free.Fl.Abs.maxDN.cls).before a0 Z = true) (w4 : (Jvm.Cond.code Jvm.Free.Fl.Abs.maxDN Jvm.Free.Fl.Abs.maxDCode 4 (some .double)).before a0 Z = true)
    (eT : T.heap = h) (hd : Dec bc pc (.invokestatic index) 3 pc') (nx : Jvm.Free.Fl.NoNaN64 x) (ny : Jvm.Free.Fl.NoNaN64 y) (hsz : Ls.size = ml) {W : Nat} (hW : (S.map fun v => v.category).sum ≤ W) (hf : 1 ≤ R.frames) (hl : W + 15 ≤ R.locals) (hc : cells ≤ R.cells) (hs : slots ≤ R.slots)
    (K : ∀ T' : State, Stand p l e R s m args below meth c T' locs cells slots → T'.heap = h → Go p e below s Q kC kS T' (mkF m pc' Ls (.double (Jvm.Native.java_lang_Math.nans.pick64 true x y) :: S))) : Go p e below s Q kC kS T (mkF m pc Ls (.double y :: .double x :: S)) := by
  obtain ⟨T', X', e', st⟩ := natS X C.1 C.2.1 C.2.2.2.2.1 w1 w2 w3 w4 (by decide) eT (W := W) (F := fun a' => a' = #[.double x, .double y] ∧ Jvm.Free.Fl.NoNaN64 x ∧ Jvm.Free.Fl.NoNaN64 y) (fun c4 => Jvm.Free.Fl.Abs.maxD_pays x y c4 hf hl) (g := mkF m pc Ls (.double y :: .double x :: S)) rfl (hsz.trans C.2.2.2.1.symm) (argsL := [.double x, .double y]) (rest := S) (lenOf (show parseMethodDescriptor "(DD)D" = some ⟨[.double, .double], some .double⟩ by decide +kernel) rfl) rfl (by show 2 * 0 + _ ≤ _; simpa using hW) (hb C.2.2.1 hd.1) hc hs ⟨rfl, nx, ny⟩ rfl
  have k := K T' X' e'
  rw [hd.2] at k
  exact Go.step st k
end Kit
section Kit2
variable {p : Program} {e : Env} {below : List Frame} {s : State} {Q : Option Value → Heap → List Loc → Prop} {kC kS : Nat} {T : State} {m : MethodId} {pc : Nat} {Ls : Array Slot} {S : List Value}
theorem own_foldI {x z : Int32} (q : x = z) (g : Go p e below s Q kC kS T (mkF m pc Ls (.int z :: S))) : Go p e below s Q kC kS T (mkF m pc Ls (.int x :: S)) := q ▸ g
theorem own_foldJ {x z : Int64} (q : x = z) (g : Go p e below s Q kC kS T (mkF m pc Ls (.long z :: S))) : Go p e below s Q kC kS T (mkF m pc Ls (.long x :: S)) := q ▸ g
theorem own_foldD {x z : UInt64} (q : x = z) (g : Go p e below s Q kC kS T (mkF m pc Ls (.double z :: S))) : Go p e below s Q kC kS T (mkF m pc Ls (.double x :: S)) := q ▸ g
end Kit2
theorem tw_0 {Z : State} {a0 : Array Value} (hw : ∀ d ∈ tables_1, d.before a0 Z = true) : (Jvm.Cond.fieldLink "com/example/pareto_sieve/paretosieve/model/DirectionToMinimisedPinLaw" (7 : Nat) "com/example/pareto_sieve/paretosieve/model/Direction" "MIN" "Lcom/example/pareto_sieve/paretosieve/model/Direction;").before a0 Z = true := hw _ (List.mem_of_getElem? (i := 0) rfl)
theorem tw_1 {Z : State} {a0 : Array Value} (hw : ∀ d ∈ tables_1, d.before a0 Z = true) : (Jvm.Cond.initialized "com/example/pareto_sieve/paretosieve/model/Direction").before a0 Z = true := hw _ (List.mem_of_getElem? (i := 1) rfl)
theorem tw_2 {Z : State} {a0 : Array Value} (hw : ∀ d ∈ tables_1, d.before a0 Z = true) : (Jvm.Cond.laysStatic "com/example/pareto_sieve/paretosieve/model/Direction" "MIN" "Lcom/example/pareto_sieve/paretosieve/model/Direction;").before a0 Z = true := hw _ (List.mem_of_getElem? (i := 2) rfl)
theorem tw_3 {Z : State} {a0 : Array Value} (hw : ∀ d ∈ tables_1, d.before a0 Z = true) : (Jvm.Cond.methodLink "com/example/pareto_sieve/paretosieve/model/DirectionToMinimisedPinLaw" (16 : Nat) ({ cls := "com/example/pareto_sieve/paretosieve/model/Direction", name := "toMinimised", desc := "(D)D" } : Jvm.MethodName)).before a0 Z = true := hw _ (List.mem_of_getElem? (i := 3) rfl)
theorem tw_4 {Z : State} {a0 : Array Value} (hw : ∀ d ∈ tables_1, d.before a0 Z = true) : (Jvm.Cond.declares ({ cls := "com/example/pareto_sieve/paretosieve/model/Direction", name := "toMinimised", desc := "(D)D" } : Jvm.MethodName)).before a0 Z = true := hw _ (List.mem_of_getElem? (i := 4) rfl)
theorem tw_5 {Z : State} {a0 : Array Value} (hw : ∀ d ∈ tables_1, d.before a0 Z = true) : (Jvm.Cond.instanceMethod ({ cls := "com/example/pareto_sieve/paretosieve/model/Direction", name := "toMinimised", desc := "(D)D" } : Jvm.MethodName)).before a0 Z = true := hw _ (List.mem_of_getElem? (i := 5) rfl)
theorem tw_6 {Z : State} {a0 : Array Value} (hw : ∀ d ∈ tables_1, d.before a0 Z = true) : (Jvm.Cond.selects "com/example/pareto_sieve/paretosieve/model/Direction" ({ cls := "com/example/pareto_sieve/paretosieve/model/Direction", name := "toMinimised", desc := "(D)D" } : Jvm.MethodName) ({ cls := "com/example/pareto_sieve/paretosieve/model/Direction", name := "toMinimised", desc := "(D)D" } : Jvm.MethodName)).before a0 Z = true := hw _ (List.mem_of_getElem? (i := 6) rfl)
theorem tw_7 {Z : State} {a0 : Array Value} (hw : ∀ d ∈ tables_1, d.before a0 Z = true) : (Jvm.Cond.code ({ cls := "com/example/pareto_sieve/paretosieve/model/Direction", name := "toMinimised", desc := "(D)D" } : Jvm.MethodName) prog_13_method_6_code (3 : Nat) (Option.some Jvm.ClassFile.FieldType.double)).before a0 Z = true := hw _ (List.mem_of_getElem? (i := 7) rfl)
theorem tw_8 {Z : State} {a0 : Array Value} (hw : ∀ d ∈ tables_1, d.before a0 Z = true) : (Jvm.Cond.fieldLink "com/example/pareto_sieve/paretosieve/model/Direction" (3 : Nat) "com/example/pareto_sieve/paretosieve/model/Direction" "MIN" "Lcom/example/pareto_sieve/paretosieve/model/Direction;").before a0 Z = true := hw _ (List.mem_of_getElem? (i := 8) rfl)
theorem tw_9 {Z : State} {a0 : Array Value} (hw : ∀ d ∈ tables_1, d.before a0 Z = true) : (Jvm.Cond.fieldLink "com/example/pareto_sieve/paretosieve/model/DirectionToMinimisedPinLaw" (13 : Nat) "com/example/pareto_sieve/paretosieve/model/Direction" "MAX" "Lcom/example/pareto_sieve/paretosieve/model/Direction;").before a0 Z = true := hw _ (List.mem_of_getElem? (i := 9) rfl)
theorem tw_10 {Z : State} {a0 : Array Value} (hw : ∀ d ∈ tables_1, d.before a0 Z = true) : (Jvm.Cond.laysStatic "com/example/pareto_sieve/paretosieve/model/Direction" "MAX" "Lcom/example/pareto_sieve/paretosieve/model/Direction;").before a0 Z = true := hw _ (List.mem_of_getElem? (i := 10) rfl)
theorem pd_0 : parseMethodDescriptor "(D)D" = some ⟨[.double], some .double⟩ := by decide +kernel
theorem own_nn {i : Int} {a : UInt64} (h : FP.Core.DInt i a) : Jvm.Free.Fl.NoNaN64 a := Jvm.Free.Fl.val64_no.mpr (FP.Core.DInt_ne_nan h)
theorem own_cv {i j : Int} {a b : UInt64} (ha : FP.Core.DInt i a) (hb : FP.Core.DInt j b) (o : CmpOp) : cmpValue (FP.dcmp a b) o = if i < j then -1 else if i = j then 0 else 1 := by
  have h : FP.dcmp a b = some (compare i j) := FP.Core.dcmp_int ha hb
  rw [h]
  simp only [compare, compareOfLessAndEq]
  split
  · rfl
  · split <;> rfl
theorem own_lt {i j : Int} {a b : UInt64} (ha : FP.Core.DInt i a) (hb : FP.Core.DInt j b) (o : CmpOp) : cmpValue (FP.dcmp a b) o < (0 : Int32) ↔ i < j := by
  rw [own_cv ha hb]
  split
  · exact ⟨fun _ => by assumption, fun _ => by decide⟩
  · split
    · exact ⟨fun q => absurd q (by decide), fun q => by omega⟩
    · exact ⟨fun q => absurd q (by decide), fun q => by omega⟩
theorem own_eq {i j : Int} {a b : UInt64} (ha : FP.Core.DInt i a) (hb : FP.Core.DInt j b) (o : CmpOp) : cmpValue (FP.dcmp a b) o = (0 : Int32) ↔ i = j := by
  rw [own_cv ha hb]
  split
  · exact ⟨fun q => absurd q (by decide), fun q => by omega⟩
  · split
    · exact ⟨fun _ => by assumption, fun _ => by decide⟩
    · exact ⟨fun q => absurd q (by decide), fun q => by omega⟩
theorem own_gt {i j : Int} {a b : UInt64} (ha : FP.Core.DInt i a) (hb : FP.Core.DInt j b) (o : CmpOp) : (0 : Int32) < cmpValue (FP.dcmp a b) o ↔ j < i := by
  rw [own_cv ha hb]
  split
  · exact ⟨fun q => absurd q (by decide), fun q => by omega⟩
  · split
    · exact ⟨fun q => absurd q (by decide), fun q => by omega⟩
    · exact ⟨fun _ => by omega, fun _ => by decide⟩
theorem own_i2d (a : Int32) : FP.Core.DInt a.toInt (FP.i2d a) := FP.Core.i2d_int a
theorem own_l2d {a : Int64} (h : a.toInt.natAbs ≤ 2 ^ 53) : FP.Core.DInt a.toInt (FP.l2d a) := FP.Core.l2d_int h
theorem own_neg {i : Int} {a : UInt64} (h : FP.Core.DInt i a) : FP.Core.DInt (-i) (FP.dneg a) := by
  show FP.Core.Whole (-i) (FP.Core.val64 (FP.dneg a))
  rw [FP.val64_dneg]; exact FP.Core.whole_negate h
theorem f1_0 : Dec prog_13_method_6_code 0 (.aload_n 0) 1 1 := ⟨by decide +kernel, rfl⟩
theorem f1_1 : Dec prog_13_method_6_code 1 (.getstatic 3) 3 4 := ⟨by decide +kernel, rfl⟩
theorem f1_4 : DecJ prog_13_method_6_code 4 (.if_acmp .ne 7) 7 11 7 := ⟨by decide +kernel, by decide, by decide, rfl⟩
theorem f1_7 : Dec prog_13_method_6_code 7 (.dload_n 1) 1 8 := ⟨by decide +kernel, rfl⟩
theorem f1_8 : DecJ prog_13_method_6_code 8 (.goto 5) 5 13 11 := ⟨by decide +kernel, by decide, by decide, rfl⟩
theorem f1_11 : Dec prog_13_method_6_code 11 (.dload_n 1) 1 12 := ⟨by decide +kernel, rfl⟩
theorem f1_12 : Dec prog_13_method_6_code 12 (.dneg) 1 13 := ⟨by decide +kernel, rfl⟩
theorem f1_13 : Dec prog_13_method_6_code 13 (.dreturn) 1 14 := ⟨by decide +kernel, rfl⟩
theorem pn_1 : plainFor (⟨"com/example/pareto_sieve/paretosieve/model/Direction", "toMinimised", "(D)D"⟩ : MethodName) = true := plainFor_of_name (show plainName "com/example/pareto_sieve/paretosieve/model/Direction" = true by first | (simp [plainName, overriddenIn]; done) | decide +kernel)
theorem ef_1 (m : MethodId) (a : Addr) (u : UInt64) : entryFrame m #[(.ref a), (.double u)] 3 = mkF m 0 #[.val (.ref a), .val (.double u), .second] [] := by first | (simp [entryFrame, mkF, argsToLocals, Value.category]; done) | rfl
def R1 (a : Addr) (u : UInt64) (mn : Addr) : UInt64 := (if (Value.ref a) = (Value.ref mn) then u else (FP.dneg u))
def Q1 (Z : State) (a : Addr) (u : UInt64) (mn : Addr) (h0 : Heap) (n0 : Nat) (v9 : Option Value) (h9 : Heap) (L9 : List Loc) : Prop := v9 = some (.double (R1 a u mn)) ∧ Fr n0 L9 ∧ h9 = h0
set_option maxRecDepth 65536 in
set_option maxHeartbeats 40000000 in
theorem rm1 (l : Launch) (Z : State) (a0 : Array Value) (hw : ∀ d ∈ tables_1, d.before a0 Z = true) (ws : List Jvm.Cond) (a : Addr) (u : UInt64) (mn : Addr) (h0 : Heap) (n0 : Nat) (Z0 : n0 ≤ h0.size) (Sta_0 : Sta Z h0 "com/example/pareto_sieve/paretosieve/model/Direction" "MIN" "Lcom/example/pareto_sieve/paretosieve/model/Direction;" (.ref mn)) :
    MetFree l (⟨"com/example/pareto_sieve/paretosieve/model/Direction", "toMinimised", "(D)D"⟩ : MethodName) (head1 (Jvm.Cond.code (⟨"com/example/pareto_sieve/paretosieve/model/Direction", "toMinimised", "(D)D"⟩ : MethodName) prog_13_method_6_code 3 (some .double) :: ws) ({ frames := 0, cells := 0, slots := 0, locals := 0 } : Room)) (fun A9 U9 => A9 = #[(.ref a), (.double u)] ∧ Z.Warmed39 U9.vm ∧ U9.heap = h0) (fun _ _ _ _ _ => True) (fun _ U9 o9 V9 => ∃ v9 L9, o9 = .returned v9 ∧ (Q1 Z a u mn h0 n0) v9 V9.heap L9 ∧ FrameEnd U9 o9 V9 L9 ({ frames := 0, cells := 0, slots := 0, locals := 0 } : Room).cells ({ frames := 0, cells := 0, slots := 0, locals := 0 } : Room).slots) := by
  refine met_of (Q := (Q1 Z a u mn h0 n0)) pn_1 ?_
  intro p e s m below meth c T0 C X0 e0
  have N0 := Fr.nil n0
  refine Go.cast (ef_1 m a u) ?_
  refine waloadN C X0 f1_0 rfl rfl ?_
  refine wgets C X0 (host := "") (Or.inl (tw_8 hw)) Via.refl e0 Sta_0 f1_1 ?_
  intro T1 X1 e1
  refine wacmp_ne C X1 rfl rfl f1_4 (fun hc4 => ?_) (fun hc4 => ?_)
  · refine wdloadN C X1 f1_7 rfl ?_
    refine wgoto C X1 f1_8 ?_
    refine wdret C X1 f1_13 rfl (by decide) (by decide) ?_
    rw [e1]
    exact ⟨(by unfold R1; rw [if_pos hc4]), N0, rfl⟩
  · refine wdloadN C X1 f1_11 rfl ?_
    refine wdneg C X1 f1_12 ?_
    refine wdret C X1 f1_13 rfl (by decide) (by decide) ?_
    rw [e1]
    exact ⟨(by unfold R1; rw [if_neg hc4]), N0, rfl⟩
theorem own_eqi {args : Array Value} {first s : State} {o : Option Outcome} {idx : List Nat} {t : Jvm.Term} {n : Int32} (h : (Jvm.Cond.eq t (.int n)).value args first o s idx = some true) : t.eval args first o idx s = some (.int n) := by
  simp only [Jvm.Cond.value, Jvm.Term.eval] at h
  cases ht : t.eval args first o idx s with
  | none => simp [ht] at h
  | some x => cases x <;> simp [ht] at h ⊢; exact h
theorem own_r1 (a : Addr) (u : UInt64) : R1 a u a = u := if_pos rfl
theorem own_r2 {a b : Addr} (u : UInt64) (h : b ≠ a) : R1 b u a = FP.dneg u := if_neg fun q => h (Value.ref.inj q)
theorem own_dd (u : Int32) : FP.Core.DInt u.toInt (FP.dneg (FP.dneg (FP.i2d u))) := by
  have h := own_neg (own_neg (own_i2d u))
  rwa [Int.neg_neg] at h
theorem own_sum (u : Int32) : FP.Core.DInt 0 (FP.dadd (FP.dneg (FP.i2d u)) (FP.i2d u)) := by
  have h := FP.Core.dadd_int (own_neg (own_i2d u)) (own_i2d u) (by rw [Int.add_left_neg]; decide)
  rwa [Int.add_left_neg] at h
theorem own_0 : FP.Core.DInt 0 FP.dconst0 := own_i2d 0
theorem f0_0 : Dec code 0 (.iload_n 0) 1 1 := ⟨by decide +kernel, rfl⟩
theorem f0_1 : Dec code 1 (.iconst 1) 1 2 := ⟨by decide +kernel, rfl⟩
theorem f0_2 : Dec code 2 (.iand) 1 3 := ⟨by decide +kernel, rfl⟩
theorem f0_3 : DecJ code 3 (.ifCond .ne 7) 7 10 6 := ⟨by decide +kernel, by decide, by decide, rfl⟩
theorem f0_6 : Dec code 6 (.iconst 1) 1 7 := ⟨by decide +kernel, rfl⟩
theorem f0_7 : DecJ code 7 (.goto 4) 4 11 10 := ⟨by decide +kernel, by decide, by decide, rfl⟩
theorem f0_10 : Dec code 10 (.iconst 0) 1 11 := ⟨by decide +kernel, rfl⟩
theorem f0_11 : Dec code 11 (.istore_n 3) 1 12 := ⟨by decide +kernel, rfl⟩
theorem f0_12 : Dec code 12 (.iload_n 3) 1 13 := ⟨by decide +kernel, rfl⟩
theorem f0_13 : DecJ code 13 (.ifCond .eq 9) 9 22 16 := ⟨by decide +kernel, by decide, by decide, rfl⟩
theorem f0_16 : Dec code 16 (.getstatic 7) 3 19 := ⟨by decide +kernel, rfl⟩
theorem f0_19 : DecJ code 19 (.goto 6) 6 25 22 := ⟨by decide +kernel, by decide, by decide, rfl⟩
theorem f0_22 : Dec code 22 (.getstatic 13) 3 25 := ⟨by decide +kernel, rfl⟩
theorem f0_25 : Dec code 25 (.astore 4) 2 27 := ⟨by decide +kernel, rfl⟩
theorem f0_27 : Dec code 27 (.iload_n 1) 1 28 := ⟨by decide +kernel, rfl⟩
theorem f0_28 : Dec code 28 (.i2d) 1 29 := ⟨by decide +kernel, rfl⟩
theorem f0_29 : Dec code 29 (.dstore 5) 2 31 := ⟨by decide +kernel, rfl⟩
theorem f0_31 : Dec code 31 (.iload_n 2) 1 32 := ⟨by decide +kernel, rfl⟩
theorem f0_32 : Dec code 32 (.i2d) 1 33 := ⟨by decide +kernel, rfl⟩
theorem f0_33 : Dec code 33 (.dstore 7) 2 35 := ⟨by decide +kernel, rfl⟩
theorem f0_35 : Dec code 35 (.aload 4) 2 37 := ⟨by decide +kernel, rfl⟩
theorem f0_37 : Dec code 37 (.dload 5) 2 39 := ⟨by decide +kernel, rfl⟩
theorem f0_39 : Dec code 39 (.invokevirtual 16) 3 42 := ⟨by decide +kernel, rfl⟩
theorem f0_42 : Dec code 42 (.dstore 9) 2 44 := ⟨by decide +kernel, rfl⟩
theorem f0_44 : Dec code 44 (.aload 4) 2 46 := ⟨by decide +kernel, rfl⟩
theorem f0_46 : Dec code 46 (.dload 7) 2 48 := ⟨by decide +kernel, rfl⟩
theorem f0_48 : Dec code 48 (.invokevirtual 16) 3 51 := ⟨by decide +kernel, rfl⟩
theorem f0_51 : Dec code 51 (.dstore 11) 2 53 := ⟨by decide +kernel, rfl⟩
theorem f0_53 : Dec code 53 (.iload_n 3) 1 54 := ⟨by decide +kernel, rfl⟩
theorem f0_54 : DecJ code 54 (.ifCond .eq 57) 57 111 57 := ⟨by decide +kernel, by decide, by decide, rfl⟩
theorem f0_57 : Dec code 57 (.dload 9) 2 59 := ⟨by decide +kernel, rfl⟩
theorem f0_59 : Dec code 59 (.dload 5) 2 61 := ⟨by decide +kernel, rfl⟩
theorem f0_61 : Dec code 61 (.dcmp .l) 1 62 := ⟨by decide +kernel, rfl⟩
theorem f0_62 : DecJ code 62 (.ifCond .ne 7) 7 69 65 := ⟨by decide +kernel, by decide, by decide, rfl⟩
theorem f0_65 : Dec code 65 (.iconst 1) 1 66 := ⟨by decide +kernel, rfl⟩
theorem f0_66 : DecJ code 66 (.goto 4) 4 70 69 := ⟨by decide +kernel, by decide, by decide, rfl⟩
theorem f0_70 : Dec code 70 (.istore 13) 2 72 := ⟨by decide +kernel, rfl⟩
theorem f0_72 : Dec code 72 (.dload 5) 2 74 := ⟨by decide +kernel, rfl⟩
theorem f0_74 : Dec code 74 (.dload 7) 2 76 := ⟨by decide +kernel, rfl⟩
theorem f0_76 : Dec code 76 (.dcmp .g) 1 77 := ⟨by decide +kernel, rfl⟩
theorem f0_77 : DecJ code 77 (.ifCond .ge 7) 7 84 80 := ⟨by decide +kernel, by decide, by decide, rfl⟩
theorem f0_80 : Dec code 80 (.iconst 1) 1 81 := ⟨by decide +kernel, rfl⟩
theorem f0_81 : DecJ code 81 (.goto 4) 4 85 84 := ⟨by decide +kernel, by decide, by decide, rfl⟩
theorem f0_84 : Dec code 84 (.iconst 0) 1 85 := ⟨by decide +kernel, rfl⟩
theorem f0_85 : Dec code 85 (.dload 9) 2 87 := ⟨by decide +kernel, rfl⟩
theorem f0_87 : Dec code 87 (.dload 11) 2 89 := ⟨by decide +kernel, rfl⟩
theorem f0_89 : Dec code 89 (.dcmp .g) 1 90 := ⟨by decide +kernel, rfl⟩
theorem f0_90 : DecJ code 90 (.ifCond .ge 7) 7 97 93 := ⟨by decide +kernel, by decide, by decide, rfl⟩
theorem f0_93 : Dec code 93 (.iconst 1) 1 94 := ⟨by decide +kernel, rfl⟩
theorem f0_94 : DecJ code 94 (.goto 4) 4 98 97 := ⟨by decide +kernel, by decide, by decide, rfl⟩
theorem f0_97 : Dec code 97 (.iconst 0) 1 98 := ⟨by decide +kernel, rfl⟩
theorem f0_98 : DecJ code 98 (.if_icmp .ne 7) 7 105 101 := ⟨by decide +kernel, by decide, by decide, rfl⟩
theorem f0_101 : Dec code 101 (.iconst 1) 1 102 := ⟨by decide +kernel, rfl⟩
theorem f0_102 : DecJ code 102 (.goto 4) 4 106 105 := ⟨by decide +kernel, by decide, by decide, rfl⟩
theorem f0_106 : Dec code 106 (.istore 14) 2 108 := ⟨by decide +kernel, rfl⟩
theorem f0_108 : DecJ code 108 (.goto 56) 56 164 111 := ⟨by decide +kernel, by decide, by decide, rfl⟩
theorem f0_111 : Dec code 111 (.dload 9) 2 113 := ⟨by decide +kernel, rfl⟩
theorem f0_113 : Dec code 113 (.dload 5) 2 115 := ⟨by decide +kernel, rfl⟩
theorem f0_115 : Dec code 115 (.dadd) 1 116 := ⟨by decide +kernel, rfl⟩
theorem f0_116 : Dec code 116 (.dconst 0) 1 117 := ⟨by decide +kernel, rfl⟩
theorem f0_117 : Dec code 117 (.dcmp .l) 1 118 := ⟨by decide +kernel, rfl⟩
theorem f0_118 : DecJ code 118 (.ifCond .ne 7) 7 125 121 := ⟨by decide +kernel, by decide, by decide, rfl⟩
theorem f0_121 : Dec code 121 (.iconst 1) 1 122 := ⟨by decide +kernel, rfl⟩
theorem f0_122 : DecJ code 122 (.goto 4) 4 126 125 := ⟨by decide +kernel, by decide, by decide, rfl⟩
theorem f0_126 : Dec code 126 (.istore 13) 2 128 := ⟨by decide +kernel, rfl⟩
theorem f0_128 : Dec code 128 (.dload 5) 2 130 := ⟨by decide +kernel, rfl⟩
theorem f0_130 : Dec code 130 (.dload 7) 2 132 := ⟨by decide +kernel, rfl⟩
theorem f0_132 : Dec code 132 (.dcmp .g) 1 133 := ⟨by decide +kernel, rfl⟩
theorem f0_133 : DecJ code 133 (.ifCond .ge 7) 7 140 136 := ⟨by decide +kernel, by decide, by decide, rfl⟩
theorem f0_136 : Dec code 136 (.iconst 1) 1 137 := ⟨by decide +kernel, rfl⟩
theorem f0_137 : DecJ code 137 (.goto 4) 4 141 140 := ⟨by decide +kernel, by decide, by decide, rfl⟩
theorem f0_140 : Dec code 140 (.iconst 0) 1 141 := ⟨by decide +kernel, rfl⟩
theorem f0_141 : Dec code 141 (.dload 11) 2 143 := ⟨by decide +kernel, rfl⟩
theorem f0_143 : Dec code 143 (.dload 9) 2 145 := ⟨by decide +kernel, rfl⟩
theorem f0_145 : Dec code 145 (.dcmp .g) 1 146 := ⟨by decide +kernel, rfl⟩
theorem f0_146 : DecJ code 146 (.ifCond .ge 7) 7 153 149 := ⟨by decide +kernel, by decide, by decide, rfl⟩
theorem f0_149 : Dec code 149 (.iconst 1) 1 150 := ⟨by decide +kernel, rfl⟩
theorem f0_150 : DecJ code 150 (.goto 4) 4 154 153 := ⟨by decide +kernel, by decide, by decide, rfl⟩
theorem f0_153 : Dec code 153 (.iconst 0) 1 154 := ⟨by decide +kernel, rfl⟩
theorem f0_154 : DecJ code 154 (.if_icmp .ne 7) 7 161 157 := ⟨by decide +kernel, by decide, by decide, rfl⟩
theorem f0_157 : Dec code 157 (.iconst 1) 1 158 := ⟨by decide +kernel, rfl⟩
theorem f0_158 : DecJ code 158 (.goto 4) 4 162 161 := ⟨by decide +kernel, by decide, by decide, rfl⟩
theorem f0_162 : Dec code 162 (.istore 14) 2 164 := ⟨by decide +kernel, rfl⟩
theorem f0_164 : Dec code 164 (.aload 4) 2 166 := ⟨by decide +kernel, rfl⟩
theorem f0_166 : Dec code 166 (.dload 9) 2 168 := ⟨by decide +kernel, rfl⟩
theorem f0_168 : Dec code 168 (.invokevirtual 16) 3 171 := ⟨by decide +kernel, rfl⟩
theorem f0_171 : Dec code 171 (.dload 5) 2 173 := ⟨by decide +kernel, rfl⟩
theorem f0_173 : Dec code 173 (.dcmp .l) 1 174 := ⟨by decide +kernel, rfl⟩
theorem f0_174 : DecJ code 174 (.ifCond .ne 7) 7 181 177 := ⟨by decide +kernel, by decide, by decide, rfl⟩
theorem f0_177 : Dec code 177 (.iconst 1) 1 178 := ⟨by decide +kernel, rfl⟩
theorem f0_178 : DecJ code 178 (.goto 4) 4 182 181 := ⟨by decide +kernel, by decide, by decide, rfl⟩
theorem f0_182 : Dec code 182 (.istore 15) 2 184 := ⟨by decide +kernel, rfl⟩
theorem f0_184 : Dec code 184 (.iload 13) 2 186 := ⟨by decide +kernel, rfl⟩
theorem f0_186 : DecJ code 186 (.ifCond .eq 17) 17 203 189 := ⟨by decide +kernel, by decide, by decide, rfl⟩
theorem f0_189 : Dec code 189 (.iload 14) 2 191 := ⟨by decide +kernel, rfl⟩
theorem f0_191 : DecJ code 191 (.ifCond .eq 12) 12 203 194 := ⟨by decide +kernel, by decide, by decide, rfl⟩
theorem f0_194 : Dec code 194 (.iload 15) 2 196 := ⟨by decide +kernel, rfl⟩
theorem f0_196 : DecJ code 196 (.ifCond .eq 7) 7 203 199 := ⟨by decide +kernel, by decide, by decide, rfl⟩
theorem f0_199 : Dec code 199 (.iconst 1) 1 200 := ⟨by decide +kernel, rfl⟩
theorem f0_200 : DecJ code 200 (.goto 4) 4 204 203 := ⟨by decide +kernel, by decide, by decide, rfl⟩
theorem f0_204 : Dec code 204 (.ireturn) 1 205 := ⟨by decide +kernel, rfl⟩
theorem pn_0 : plainFor x = true := plainFor_of_name (show plainName "com/example/pareto_sieve/paretosieve/model/DirectionToMinimisedPinLaw" = true by first | (simp [plainName, overriddenIn]; done) | decide +kernel)
theorem ef_0 (m : MethodId) (a9 : Int32) (a1 : Int32) (a2 : Int32) : entryFrame m #[(.int a9), (.int a1), (.int a2)] maxLocals = mkF m 0 #[.val (.int a9), .val (.int a1), .val (.int a2), .unset, .unset, .unset, .unset, .unset, .unset, .unset, .unset, .unset, .unset, .unset, .unset, .unset] [] := by first | (simp [entryFrame, mkF, argsToLocals, Value.category, maxLocals]; done) | rfl
def Q0 (n0 : Nat) (v : Option Value) (h : Heap) (L : List Loc) : Prop := v = some (.int 1) ∧ Fr n0 L
set_option maxRecDepth 65536 in
set_option maxHeartbeats 40000000 in
theorem rm0 (l : Launch) (Z : State) (a0 : Array Value) (hw : ∀ d ∈ tables_1, d.before a0 Z = true) (ws : List Jvm.Cond) (a9 : Int32) (a1 : Int32) (a2 : Int32) (mn : Addr) (mx : Addr) (h0 : Heap) (n0 : Nat) (Z0 : n0 ≤ h0.size) (Sta_0 : Sta Z h0 "com/example/pareto_sieve/paretosieve/model/Direction" "MIN" "Lcom/example/pareto_sieve/paretosieve/model/Direction;" (.ref mn)) (Sta_1 : Sta Z h0 "com/example/pareto_sieve/paretosieve/model/Direction" "MAX" "Lcom/example/pareto_sieve/paretosieve/model/Direction;" (.ref mx)) (Exa_2 : Exa Z h0 mn "com/example/pareto_sieve/paretosieve/model/Direction") (Exa_3 : Exa Z h0 mx "com/example/pareto_sieve/paretosieve/model/Direction") (ne_4 : mn ≠ mx) :
    MetFree l x (head1 (Jvm.Cond.code x code maxLocals ret :: ws) room_1) (fun A9 U9 => A9 = #[(.int a9), (.int a1), (.int a2)] ∧ Z.Warmed39 U9.vm ∧ U9.heap = h0) (fun _ _ _ _ _ => True) (fun _ U9 o9 V9 => ∃ v9 L9, o9 = .returned v9 ∧ (Q0 n0) v9 V9.heap L9 ∧ FrameEnd U9 o9 V9 L9 room_1.cells room_1.slots) := by
  refine met_of (Q := (Q0 n0)) pn_0 ?_
  intro p e s m below meth c T0 C X0 e0
  have N0 := Fr.nil n0
  refine Go.cast (ef_0 m a9 a1 a2) ?_
  refine wiloadN C X0 f0_0 rfl ?_
  refine wiconst C X0 f0_1 (1 : Int32) rfl ?_
  refine wiand C X0 f0_2 ?_
  refine wif_ne C X0 f0_3 (fun hc3 => ?_) (fun hc3 => ?_)
  · refine wiconst C X0 f0_6 (1 : Int32) rfl ?_
    refine wgoto C X0 f0_7 ?_
    refine wistoreN C X0 f0_11 #[.val (.int a9), .val (.int a1), .val (.int a2), .val (.int (1 : Int32)), .unset, .unset, .unset, .unset, .unset, .unset, .unset, .unset, .unset, .unset, .unset, .unset] rfl ?_
    refine wiloadN C X0 f0_12 rfl ?_
    refine wif_eq C X0 f0_13 (fun q => absurd q (by decide : ¬ ((1 : Int32) = (0 : Int32)))) ?_
    intro _
    refine wgets C X0 (host := "") (Or.inl (tw_0 hw)) Via.refl e0 Sta_0 f0_16 ?_
    intro T1 X1 e1
    refine wgoto C X1 f0_19 ?_
    refine wastore C X1 f0_25 #[.val (.int a9), .val (.int a1), .val (.int a2), .val (.int (1 : Int32)), .val (.ref mn), .unset, .unset, .unset, .unset, .unset, .unset, .unset, .unset, .unset, .unset, .unset] rfl rfl ?_
    refine wiloadN C X1 f0_27 rfl ?_
    refine wi2d C X1 f0_28 ?_
    refine wdstore C X1 f0_29 #[.val (.int a9), .val (.int a1), .val (.int a2), .val (.int (1 : Int32)), .val (.ref mn), .val (.double (FP.i2d a1)), .second, .unset, .unset, .unset, .unset, .unset, .unset, .unset, .unset, .unset] rfl ?_
    refine wiloadN C X1 f0_31 rfl ?_
    refine wi2d C X1 f0_32 ?_
    refine wdstore C X1 f0_33 #[.val (.int a9), .val (.int a1), .val (.int a2), .val (.int (1 : Int32)), .val (.ref mn), .val (.double (FP.i2d a1)), .second, .val (.double (FP.i2d a2)), .second, .unset, .unset, .unset, .unset, .unset, .unset, .unset] rfl ?_
    refine waload C X1 f0_35 rfl rfl ?_
    refine wdload C X1 f0_37 rfl ?_
    refine wvirtual C X1 (y := (⟨"com/example/pareto_sieve/paretosieve/model/Direction", "toMinimised", "(D)D"⟩ : MethodName)) (z := (⟨"com/example/pareto_sieve/paretosieve/model/Direction", "toMinimised", "(D)D"⟩ : MethodName)) (tw_3 hw) (tw_4 hw) (notFace_of_selects (args := #[]) (mvT C.2.1 (tw_6 hw))) (tw_6 hw) (tw_5 hw) (tw_7 hw) (tw_1 hw) (by decide) (rm1 l Z a0 hw [] mn (FP.i2d a1) mn h0 n0 Z0 Sta_0) e1 (a := mn) Exa_2 f0_39 (argsL := [(.double (FP.i2d a1))]) (rest := []) rfl rfl (lenOf pd_0 rfl) rfl (W := 0) (Nat.le_of_eq rfl) (by decide) (by decide) (by decide) (by decide) ?_
    intro v2 T2 L2 X2 q2
    obtain ⟨rfl, Nq2, eq2⟩ := q2
    have N2 := Fr.app N0 Nq2
    show Go p e below s _ _ _ T2 (mkF m 42 #[.val (.int a9), .val (.int a1), .val (.int a2), .val (.int (1 : Int32)), .val (.ref mn), .val (.double (FP.i2d a1)), .second, .val (.double (FP.i2d a2)), .second, .unset, .unset, .unset, .unset, .unset, .unset, .unset] [(.double (R1 mn (FP.i2d a1) mn))])
    refine own_foldD (z := (FP.i2d a1)) (own_r1 _ _) ?_
    refine wdstore C X2 f0_42 #[.val (.int a9), .val (.int a1), .val (.int a2), .val (.int (1 : Int32)), .val (.ref mn), .val (.double (FP.i2d a1)), .second, .val (.double (FP.i2d a2)), .second, .val (.double (FP.i2d a1)), .second, .unset, .unset, .unset, .unset, .unset] rfl ?_
    refine waload C X2 f0_44 rfl rfl ?_
    refine wdload C X2 f0_46 rfl ?_
    refine wvirtual C X2 (y := (⟨"com/example/pareto_sieve/paretosieve/model/Direction", "toMinimised", "(D)D"⟩ : MethodName)) (z := (⟨"com/example/pareto_sieve/paretosieve/model/Direction", "toMinimised", "(D)D"⟩ : MethodName)) (tw_3 hw) (tw_4 hw) (notFace_of_selects (args := #[]) (mvT C.2.1 (tw_6 hw))) (tw_6 hw) (tw_5 hw) (tw_7 hw) (tw_1 hw) (by decide) (rm1 l Z a0 hw [] mn (FP.i2d a2) mn h0 n0 Z0 Sta_0) eq2 (a := mn) Exa_2 f0_48 (argsL := [(.double (FP.i2d a2))]) (rest := []) rfl rfl (lenOf pd_0 rfl) rfl (W := 0) (Nat.le_of_eq rfl) (by decide) (by decide) (by decide) (by decide) ?_
    intro v3 T3 L3 X3 q3
    obtain ⟨rfl, Nq3, eq3⟩ := q3
    have N3 := Fr.app N2 Nq3
    show Go p e below s _ _ _ T3 (mkF m 51 #[.val (.int a9), .val (.int a1), .val (.int a2), .val (.int (1 : Int32)), .val (.ref mn), .val (.double (FP.i2d a1)), .second, .val (.double (FP.i2d a2)), .second, .val (.double (FP.i2d a1)), .second, .unset, .unset, .unset, .unset, .unset] [(.double (R1 mn (FP.i2d a2) mn))])
    refine own_foldD (z := (FP.i2d a2)) (own_r1 _ _) ?_
    refine wdstore C X3 f0_51 #[.val (.int a9), .val (.int a1), .val (.int a2), .val (.int (1 : Int32)), .val (.ref mn), .val (.double (FP.i2d a1)), .second, .val (.double (FP.i2d a2)), .second, .val (.double (FP.i2d a1)), .second, .val (.double (FP.i2d a2)), .second, .unset, .unset, .unset] rfl ?_
    refine wiloadN C X3 f0_53 rfl ?_
    refine wif_eq C X3 f0_54 (fun q => absurd q (by decide : ¬ ((1 : Int32) = (0 : Int32)))) ?_
    intro _
    refine wdload C X3 f0_57 rfl ?_
    refine wdload C X3 f0_59 rfl ?_
    refine wdcmp C X3 f0_61 (v := (cmpValue (FP.dcmp (FP.i2d a1) (FP.i2d a1)) .l)) rfl ?_
    refine wif_ne C X3 f0_62 ?_ (fun q => absurd ((own_eq (own_i2d a1) (own_i2d a1) _).mpr rfl) q)
    intro _
    refine wiconst C X3 f0_65 (1 : Int32) rfl ?_
    refine wgoto C X3 f0_66 ?_
    refine wistore C X3 f0_70 #[.val (.int a9), .val (.int a1), .val (.int a2), .val (.int (1 : Int32)), .val (.ref mn), .val (.double (FP.i2d a1)), .second, .val (.double (FP.i2d a2)), .second, .val (.double (FP.i2d a1)), .second, .val (.double (FP.i2d a2)), .second, .val (.int (1 : Int32)), .unset, .unset] rfl ?_
    refine wdload C X3 f0_72 rfl ?_
    refine wdload C X3 f0_74 rfl ?_
    refine wdcmp C X3 f0_76 (v := (cmpValue (FP.dcmp (FP.i2d a1) (FP.i2d a2)) .g)) rfl ?_
    refine wif_ge C X3 f0_77 (fun hc77 => ?_) (fun hc77 => ?_)
    · refine wiconst C X3 f0_80 (1 : Int32) rfl ?_
      refine wgoto C X3 f0_81 ?_
      refine wdload C X3 f0_85 rfl ?_
      refine wdload C X3 f0_87 rfl ?_
      refine wdcmp C X3 f0_89 (v := (cmpValue (FP.dcmp (FP.i2d a1) (FP.i2d a2)) .g)) rfl ?_
      refine wif_ge C X3 f0_90 ?_ (fun q => absurd hc77 q)
      intro _
      refine wiconst C X3 f0_93 (1 : Int32) rfl ?_
      refine wgoto C X3 f0_94 ?_
      refine wicmp_ne C X3 f0_98 ?_ (fun q => absurd (by decide : ((1 : Int32) = (1 : Int32))) q)
      intro _
      refine wiconst C X3 f0_101 (1 : Int32) rfl ?_
      refine wgoto C X3 f0_102 ?_
      refine wistore C X3 f0_106 #[.val (.int a9), .val (.int a1), .val (.int a2), .val (.int (1 : Int32)), .val (.ref mn), .val (.double (FP.i2d a1)), .second, .val (.double (FP.i2d a2)), .second, .val (.double (FP.i2d a1)), .second, .val (.double (FP.i2d a2)), .second, .val (.int (1 : Int32)), .val (.int (1 : Int32)), .unset] rfl ?_
      refine wgoto C X3 f0_108 ?_
      refine waload C X3 f0_164 rfl rfl ?_
      refine wdload C X3 f0_166 rfl ?_
      refine wvirtual C X3 (y := (⟨"com/example/pareto_sieve/paretosieve/model/Direction", "toMinimised", "(D)D"⟩ : MethodName)) (z := (⟨"com/example/pareto_sieve/paretosieve/model/Direction", "toMinimised", "(D)D"⟩ : MethodName)) (tw_3 hw) (tw_4 hw) (notFace_of_selects (args := #[]) (mvT C.2.1 (tw_6 hw))) (tw_6 hw) (tw_5 hw) (tw_7 hw) (tw_1 hw) (by decide) (rm1 l Z a0 hw [] mn (FP.i2d a1) mn h0 n0 Z0 Sta_0) eq3 (a := mn) Exa_2 f0_168 (argsL := [(.double (FP.i2d a1))]) (rest := []) rfl rfl (lenOf pd_0 rfl) rfl (W := 0) (Nat.le_of_eq rfl) (by decide) (by decide) (by decide) (by decide) ?_
      intro v4 T4 L4 X4 q4
      obtain ⟨rfl, Nq4, eq4⟩ := q4
      have N4 := Fr.app N3 Nq4
      show Go p e below s _ _ _ T4 (mkF m 171 #[.val (.int a9), .val (.int a1), .val (.int a2), .val (.int (1 : Int32)), .val (.ref mn), .val (.double (FP.i2d a1)), .second, .val (.double (FP.i2d a2)), .second, .val (.double (FP.i2d a1)), .second, .val (.double (FP.i2d a2)), .second, .val (.int (1 : Int32)), .val (.int (1 : Int32)), .unset] [(.double (R1 mn (FP.i2d a1) mn))])
      refine own_foldD (z := (FP.i2d a1)) (own_r1 _ _) ?_
      refine wdload C X4 f0_171 rfl ?_
      refine wdcmp C X4 f0_173 (v := (cmpValue (FP.dcmp (FP.i2d a1) (FP.i2d a1)) .l)) rfl ?_
      refine wif_ne C X4 f0_174 ?_ (fun q => absurd ((own_eq (own_i2d a1) (own_i2d a1) _).mpr rfl) q)
      intro _
      refine wiconst C X4 f0_177 (1 : Int32) rfl ?_
      refine wgoto C X4 f0_178 ?_
      refine wistore C X4 f0_182 #[.val (.int a9), .val (.int a1), .val (.int a2), .val (.int (1 : Int32)), .val (.ref mn), .val (.double (FP.i2d a1)), .second, .val (.double (FP.i2d a2)), .second, .val (.double (FP.i2d a1)), .second, .val (.double (FP.i2d a2)), .second, .val (.int (1 : Int32)), .val (.int (1 : Int32)), .val (.int (1 : Int32))] rfl ?_
      refine wiload C X4 f0_184 rfl ?_
      refine wif_eq C X4 f0_186 (fun q => absurd q (by decide : ¬ ((1 : Int32) = (0 : Int32)))) ?_
      intro _
      refine wiload C X4 f0_189 rfl ?_
      refine wif_eq C X4 f0_191 (fun q => absurd q (by decide : ¬ ((1 : Int32) = (0 : Int32)))) ?_
      intro _
      refine wiload C X4 f0_194 rfl ?_
      refine wif_eq C X4 f0_196 (fun q => absurd q (by decide : ¬ ((1 : Int32) = (0 : Int32)))) ?_
      intro _
      refine wiconst C X4 f0_199 (1 : Int32) rfl ?_
      refine wgoto C X4 f0_200 ?_
      refine wiretN C X4 (t := .boolean) (by simp) f0_204 rfl (1 : Int32) (by decide) (by decide) (by decide) ?_
      rw [eq4]
      exact ⟨rfl, N4⟩
    · refine wiconst C X3 f0_84 (0 : Int32) rfl ?_
      refine wdload C X3 f0_85 rfl ?_
      refine wdload C X3 f0_87 rfl ?_
      refine wdcmp C X3 f0_89 (v := (cmpValue (FP.dcmp (FP.i2d a1) (FP.i2d a2)) .g)) rfl ?_
      refine wif_ge C X3 f0_90 (fun q => absurd q hc77) ?_
      intro _
      refine wiconst C X3 f0_97 (0 : Int32) rfl ?_
      refine wicmp_ne C X3 f0_98 ?_ (fun q => absurd (by decide : ((0 : Int32) = (0 : Int32))) q)
      intro _
      refine wiconst C X3 f0_101 (1 : Int32) rfl ?_
      refine wgoto C X3 f0_102 ?_
      refine wistore C X3 f0_106 #[.val (.int a9), .val (.int a1), .val (.int a2), .val (.int (1 : Int32)), .val (.ref mn), .val (.double (FP.i2d a1)), .second, .val (.double (FP.i2d a2)), .second, .val (.double (FP.i2d a1)), .second, .val (.double (FP.i2d a2)), .second, .val (.int (1 : Int32)), .val (.int (1 : Int32)), .unset] rfl ?_
      refine wgoto C X3 f0_108 ?_
      refine waload C X3 f0_164 rfl rfl ?_
      refine wdload C X3 f0_166 rfl ?_
      refine wvirtual C X3 (y := (⟨"com/example/pareto_sieve/paretosieve/model/Direction", "toMinimised", "(D)D"⟩ : MethodName)) (z := (⟨"com/example/pareto_sieve/paretosieve/model/Direction", "toMinimised", "(D)D"⟩ : MethodName)) (tw_3 hw) (tw_4 hw) (notFace_of_selects (args := #[]) (mvT C.2.1 (tw_6 hw))) (tw_6 hw) (tw_5 hw) (tw_7 hw) (tw_1 hw) (by decide) (rm1 l Z a0 hw [] mn (FP.i2d a1) mn h0 n0 Z0 Sta_0) eq3 (a := mn) Exa_2 f0_168 (argsL := [(.double (FP.i2d a1))]) (rest := []) rfl rfl (lenOf pd_0 rfl) rfl (W := 0) (Nat.le_of_eq rfl) (by decide) (by decide) (by decide) (by decide) ?_
      intro v5 T5 L5 X5 q5
      obtain ⟨rfl, Nq5, eq5⟩ := q5
      have N5 := Fr.app N3 Nq5
      show Go p e below s _ _ _ T5 (mkF m 171 #[.val (.int a9), .val (.int a1), .val (.int a2), .val (.int (1 : Int32)), .val (.ref mn), .val (.double (FP.i2d a1)), .second, .val (.double (FP.i2d a2)), .second, .val (.double (FP.i2d a1)), .second, .val (.double (FP.i2d a2)), .second, .val (.int (1 : Int32)), .val (.int (1 : Int32)), .unset] [(.double (R1 mn (FP.i2d a1) mn))])
      refine own_foldD (z := (FP.i2d a1)) (own_r1 _ _) ?_
      refine wdload C X5 f0_171 rfl ?_
      refine wdcmp C X5 f0_173 (v := (cmpValue (FP.dcmp (FP.i2d a1) (FP.i2d a1)) .l)) rfl ?_
      refine wif_ne C X5 f0_174 ?_ (fun q => absurd ((own_eq (own_i2d a1) (own_i2d a1) _).mpr rfl) q)
      intro _
      refine wiconst C X5 f0_177 (1 : Int32) rfl ?_
      refine wgoto C X5 f0_178 ?_
      refine wistore C X5 f0_182 #[.val (.int a9), .val (.int a1), .val (.int a2), .val (.int (1 : Int32)), .val (.ref mn), .val (.double (FP.i2d a1)), .second, .val (.double (FP.i2d a2)), .second, .val (.double (FP.i2d a1)), .second, .val (.double (FP.i2d a2)), .second, .val (.int (1 : Int32)), .val (.int (1 : Int32)), .val (.int (1 : Int32))] rfl ?_
      refine wiload C X5 f0_184 rfl ?_
      refine wif_eq C X5 f0_186 (fun q => absurd q (by decide : ¬ ((1 : Int32) = (0 : Int32)))) ?_
      intro _
      refine wiload C X5 f0_189 rfl ?_
      refine wif_eq C X5 f0_191 (fun q => absurd q (by decide : ¬ ((1 : Int32) = (0 : Int32)))) ?_
      intro _
      refine wiload C X5 f0_194 rfl ?_
      refine wif_eq C X5 f0_196 (fun q => absurd q (by decide : ¬ ((1 : Int32) = (0 : Int32)))) ?_
      intro _
      refine wiconst C X5 f0_199 (1 : Int32) rfl ?_
      refine wgoto C X5 f0_200 ?_
      refine wiretN C X5 (t := .boolean) (by simp) f0_204 rfl (1 : Int32) (by decide) (by decide) (by decide) ?_
      rw [eq5]
      exact ⟨rfl, N5⟩
  · refine wiconst C X0 f0_10 (0 : Int32) rfl ?_
    refine wistoreN C X0 f0_11 #[.val (.int a9), .val (.int a1), .val (.int a2), .val (.int (0 : Int32)), .unset, .unset, .unset, .unset, .unset, .unset, .unset, .unset, .unset, .unset, .unset, .unset] rfl ?_
    refine wiloadN C X0 f0_12 rfl ?_
    refine wif_eq C X0 f0_13 ?_ (fun q => absurd (by decide : ((0 : Int32) = (0 : Int32))) q)
    intro _
    refine wgets C X0 (host := "") (Or.inl (tw_9 hw)) Via.refl e0 Sta_1 f0_22 ?_
    intro T6 X6 e6
    refine wastore C X6 f0_25 #[.val (.int a9), .val (.int a1), .val (.int a2), .val (.int (0 : Int32)), .val (.ref mx), .unset, .unset, .unset, .unset, .unset, .unset, .unset, .unset, .unset, .unset, .unset] rfl rfl ?_
    refine wiloadN C X6 f0_27 rfl ?_
    refine wi2d C X6 f0_28 ?_
    refine wdstore C X6 f0_29 #[.val (.int a9), .val (.int a1), .val (.int a2), .val (.int (0 : Int32)), .val (.ref mx), .val (.double (FP.i2d a1)), .second, .unset, .unset, .unset, .unset, .unset, .unset, .unset, .unset, .unset] rfl ?_
    refine wiloadN C X6 f0_31 rfl ?_
    refine wi2d C X6 f0_32 ?_
    refine wdstore C X6 f0_33 #[.val (.int a9), .val (.int a1), .val (.int a2), .val (.int (0 : Int32)), .val (.ref mx), .val (.double (FP.i2d a1)), .second, .val (.double (FP.i2d a2)), .second, .unset, .unset, .unset, .unset, .unset, .unset, .unset] rfl ?_
    refine waload C X6 f0_35 rfl rfl ?_
    refine wdload C X6 f0_37 rfl ?_
    refine wvirtual C X6 (y := (⟨"com/example/pareto_sieve/paretosieve/model/Direction", "toMinimised", "(D)D"⟩ : MethodName)) (z := (⟨"com/example/pareto_sieve/paretosieve/model/Direction", "toMinimised", "(D)D"⟩ : MethodName)) (tw_3 hw) (tw_4 hw) (notFace_of_selects (args := #[]) (mvT C.2.1 (tw_6 hw))) (tw_6 hw) (tw_5 hw) (tw_7 hw) (tw_1 hw) (by decide) (rm1 l Z a0 hw [] mx (FP.i2d a1) mn h0 n0 Z0 Sta_0) e6 (a := mx) Exa_3 f0_39 (argsL := [(.double (FP.i2d a1))]) (rest := []) rfl rfl (lenOf pd_0 rfl) rfl (W := 0) (Nat.le_of_eq rfl) (by decide) (by decide) (by decide) (by decide) ?_
    intro v7 T7 L7 X7 q7
    obtain ⟨rfl, Nq7, eq7⟩ := q7
    have N7 := Fr.app N0 Nq7
    show Go p e below s _ _ _ T7 (mkF m 42 #[.val (.int a9), .val (.int a1), .val (.int a2), .val (.int (0 : Int32)), .val (.ref mx), .val (.double (FP.i2d a1)), .second, .val (.double (FP.i2d a2)), .second, .unset, .unset, .unset, .unset, .unset, .unset, .unset] [(.double (R1 mx (FP.i2d a1) mn))])
    refine own_foldD (z := (FP.dneg (FP.i2d a1))) (own_r2 _ (Ne.symm ne_4)) ?_
    refine wdstore C X7 f0_42 #[.val (.int a9), .val (.int a1), .val (.int a2), .val (.int (0 : Int32)), .val (.ref mx), .val (.double (FP.i2d a1)), .second, .val (.double (FP.i2d a2)), .second, .val (.double (FP.dneg (FP.i2d a1))), .second, .unset, .unset, .unset, .unset, .unset] rfl ?_
    refine waload C X7 f0_44 rfl rfl ?_
    refine wdload C X7 f0_46 rfl ?_
    refine wvirtual C X7 (y := (⟨"com/example/pareto_sieve/paretosieve/model/Direction", "toMinimised", "(D)D"⟩ : MethodName)) (z := (⟨"com/example/pareto_sieve/paretosieve/model/Direction", "toMinimised", "(D)D"⟩ : MethodName)) (tw_3 hw) (tw_4 hw) (notFace_of_selects (args := #[]) (mvT C.2.1 (tw_6 hw))) (tw_6 hw) (tw_5 hw) (tw_7 hw) (tw_1 hw) (by decide) (rm1 l Z a0 hw [] mx (FP.i2d a2) mn h0 n0 Z0 Sta_0) eq7 (a := mx) Exa_3 f0_48 (argsL := [(.double (FP.i2d a2))]) (rest := []) rfl rfl (lenOf pd_0 rfl) rfl (W := 0) (Nat.le_of_eq rfl) (by decide) (by decide) (by decide) (by decide) ?_
    intro v8 T8 L8 X8 q8
    obtain ⟨rfl, Nq8, eq8⟩ := q8
    have N8 := Fr.app N7 Nq8
    show Go p e below s _ _ _ T8 (mkF m 51 #[.val (.int a9), .val (.int a1), .val (.int a2), .val (.int (0 : Int32)), .val (.ref mx), .val (.double (FP.i2d a1)), .second, .val (.double (FP.i2d a2)), .second, .val (.double (FP.dneg (FP.i2d a1))), .second, .unset, .unset, .unset, .unset, .unset] [(.double (R1 mx (FP.i2d a2) mn))])
    refine own_foldD (z := (FP.dneg (FP.i2d a2))) (own_r2 _ (Ne.symm ne_4)) ?_
    refine wdstore C X8 f0_51 #[.val (.int a9), .val (.int a1), .val (.int a2), .val (.int (0 : Int32)), .val (.ref mx), .val (.double (FP.i2d a1)), .second, .val (.double (FP.i2d a2)), .second, .val (.double (FP.dneg (FP.i2d a1))), .second, .val (.double (FP.dneg (FP.i2d a2))), .second, .unset, .unset, .unset] rfl ?_
    refine wiloadN C X8 f0_53 rfl ?_
    refine wif_eq C X8 f0_54 ?_ (fun q => absurd (by decide : ((0 : Int32) = (0 : Int32))) q)
    intro _
    refine wdload C X8 f0_111 rfl ?_
    refine wdload C X8 f0_113 rfl ?_
    refine wdadd C X8 f0_115 (v := (FP.dadd (FP.dneg (FP.i2d a1)) (FP.i2d a1))) rfl (own_nn (own_sum a1)) ?_
    refine wdconst0 C X8 f0_116 ?_
    refine wdcmp C X8 f0_117 (v := (cmpValue (FP.dcmp (FP.dadd (FP.dneg (FP.i2d a1)) (FP.i2d a1)) FP.dconst0) .l)) rfl ?_
    refine wif_ne C X8 f0_118 ?_ (fun q => absurd ((own_eq (own_sum a1) own_0 _).mpr rfl) q)
    intro _
    refine wiconst C X8 f0_121 (1 : Int32) rfl ?_
    refine wgoto C X8 f0_122 ?_
    refine wistore C X8 f0_126 #[.val (.int a9), .val (.int a1), .val (.int a2), .val (.int (0 : Int32)), .val (.ref mx), .val (.double (FP.i2d a1)), .second, .val (.double (FP.i2d a2)), .second, .val (.double (FP.dneg (FP.i2d a1))), .second, .val (.double (FP.dneg (FP.i2d a2))), .second, .val (.int (1 : Int32)), .unset, .unset] rfl ?_
    refine wdload C X8 f0_128 rfl ?_
    refine wdload C X8 f0_130 rfl ?_
    refine wdcmp C X8 f0_132 (v := (cmpValue (FP.dcmp (FP.i2d a1) (FP.i2d a2)) .g)) rfl ?_
    refine wif_ge C X8 f0_133 (fun hc133 => ?_) (fun hc133 => ?_)
    · refine wiconst C X8 f0_136 (1 : Int32) rfl ?_
      refine wgoto C X8 f0_137 ?_
      refine wdload C X8 f0_141 rfl ?_
      refine wdload C X8 f0_143 rfl ?_
      refine wdcmp C X8 f0_145 (v := (cmpValue (FP.dcmp (FP.dneg (FP.i2d a2)) (FP.dneg (FP.i2d a1))) .g)) rfl ?_
      refine wif_ge C X8 f0_146 ?_ (fun q => absurd ((own_lt (own_neg (own_i2d a2)) (own_neg (own_i2d a1)) _).mpr (by have q := (own_lt (own_i2d a1) (own_i2d a2) _).mp hc133; omega)) q)
      intro _
      refine wiconst C X8 f0_149 (1 : Int32) rfl ?_
      refine wgoto C X8 f0_150 ?_
      refine wicmp_ne C X8 f0_154 ?_ (fun q => absurd (by decide : ((1 : Int32) = (1 : Int32))) q)
      intro _
      refine wiconst C X8 f0_157 (1 : Int32) rfl ?_
      refine wgoto C X8 f0_158 ?_
      refine wistore C X8 f0_162 #[.val (.int a9), .val (.int a1), .val (.int a2), .val (.int (0 : Int32)), .val (.ref mx), .val (.double (FP.i2d a1)), .second, .val (.double (FP.i2d a2)), .second, .val (.double (FP.dneg (FP.i2d a1))), .second, .val (.double (FP.dneg (FP.i2d a2))), .second, .val (.int (1 : Int32)), .val (.int (1 : Int32)), .unset] rfl ?_
      refine waload C X8 f0_164 rfl rfl ?_
      refine wdload C X8 f0_166 rfl ?_
      refine wvirtual C X8 (y := (⟨"com/example/pareto_sieve/paretosieve/model/Direction", "toMinimised", "(D)D"⟩ : MethodName)) (z := (⟨"com/example/pareto_sieve/paretosieve/model/Direction", "toMinimised", "(D)D"⟩ : MethodName)) (tw_3 hw) (tw_4 hw) (notFace_of_selects (args := #[]) (mvT C.2.1 (tw_6 hw))) (tw_6 hw) (tw_5 hw) (tw_7 hw) (tw_1 hw) (by decide) (rm1 l Z a0 hw [] mx (FP.dneg (FP.i2d a1)) mn h0 n0 Z0 Sta_0) eq8 (a := mx) Exa_3 f0_168 (argsL := [(.double (FP.dneg (FP.i2d a1)))]) (rest := []) rfl rfl (lenOf pd_0 rfl) rfl (W := 0) (Nat.le_of_eq rfl) (by decide) (by decide) (by decide) (by decide) ?_
      intro v9 T9 L9 X9 q9
      obtain ⟨rfl, Nq9, eq9⟩ := q9
      have N9 := Fr.app N8 Nq9
      show Go p e below s _ _ _ T9 (mkF m 171 #[.val (.int a9), .val (.int a1), .val (.int a2), .val (.int (0 : Int32)), .val (.ref mx), .val (.double (FP.i2d a1)), .second, .val (.double (FP.i2d a2)), .second, .val (.double (FP.dneg (FP.i2d a1))), .second, .val (.double (FP.dneg (FP.i2d a2))), .second, .val (.int (1 : Int32)), .val (.int (1 : Int32)), .unset] [(.double (R1 mx (FP.dneg (FP.i2d a1)) mn))])
      refine own_foldD (z := (FP.dneg (FP.dneg (FP.i2d a1)))) (own_r2 _ (Ne.symm ne_4)) ?_
      refine wdload C X9 f0_171 rfl ?_
      refine wdcmp C X9 f0_173 (v := (cmpValue (FP.dcmp (FP.dneg (FP.dneg (FP.i2d a1))) (FP.i2d a1)) .l)) rfl ?_
      refine wif_ne C X9 f0_174 ?_ (fun q => absurd ((own_eq (own_dd a1) (own_i2d a1) _).mpr rfl) q)
      intro _
      refine wiconst C X9 f0_177 (1 : Int32) rfl ?_
      refine wgoto C X9 f0_178 ?_
      refine wistore C X9 f0_182 #[.val (.int a9), .val (.int a1), .val (.int a2), .val (.int (0 : Int32)), .val (.ref mx), .val (.double (FP.i2d a1)), .second, .val (.double (FP.i2d a2)), .second, .val (.double (FP.dneg (FP.i2d a1))), .second, .val (.double (FP.dneg (FP.i2d a2))), .second, .val (.int (1 : Int32)), .val (.int (1 : Int32)), .val (.int (1 : Int32))] rfl ?_
      refine wiload C X9 f0_184 rfl ?_
      refine wif_eq C X9 f0_186 (fun q => absurd q (by decide : ¬ ((1 : Int32) = (0 : Int32)))) ?_
      intro _
      refine wiload C X9 f0_189 rfl ?_
      refine wif_eq C X9 f0_191 (fun q => absurd q (by decide : ¬ ((1 : Int32) = (0 : Int32)))) ?_
      intro _
      refine wiload C X9 f0_194 rfl ?_
      refine wif_eq C X9 f0_196 (fun q => absurd q (by decide : ¬ ((1 : Int32) = (0 : Int32)))) ?_
      intro _
      refine wiconst C X9 f0_199 (1 : Int32) rfl ?_
      refine wgoto C X9 f0_200 ?_
      refine wiretN C X9 (t := .boolean) (by simp) f0_204 rfl (1 : Int32) (by decide) (by decide) (by decide) ?_
      rw [eq9]
      exact ⟨rfl, N9⟩
    · refine wiconst C X8 f0_140 (0 : Int32) rfl ?_
      refine wdload C X8 f0_141 rfl ?_
      refine wdload C X8 f0_143 rfl ?_
      refine wdcmp C X8 f0_145 (v := (cmpValue (FP.dcmp (FP.dneg (FP.i2d a2)) (FP.dneg (FP.i2d a1))) .g)) rfl ?_
      refine wif_ge C X8 f0_146 (fun q => absurd q (fun q' => hc133 ((own_lt (own_i2d a1) (own_i2d a2) _).mpr (by have q := (own_lt (own_neg (own_i2d a2)) (own_neg (own_i2d a1)) _).mp q'; omega)))) ?_
      intro _
      refine wiconst C X8 f0_153 (0 : Int32) rfl ?_
      refine wicmp_ne C X8 f0_154 ?_ (fun q => absurd (by decide : ((0 : Int32) = (0 : Int32))) q)
      intro _
      refine wiconst C X8 f0_157 (1 : Int32) rfl ?_
      refine wgoto C X8 f0_158 ?_
      refine wistore C X8 f0_162 #[.val (.int a9), .val (.int a1), .val (.int a2), .val (.int (0 : Int32)), .val (.ref mx), .val (.double (FP.i2d a1)), .second, .val (.double (FP.i2d a2)), .second, .val (.double (FP.dneg (FP.i2d a1))), .second, .val (.double (FP.dneg (FP.i2d a2))), .second, .val (.int (1 : Int32)), .val (.int (1 : Int32)), .unset] rfl ?_
      refine waload C X8 f0_164 rfl rfl ?_
      refine wdload C X8 f0_166 rfl ?_
      refine wvirtual C X8 (y := (⟨"com/example/pareto_sieve/paretosieve/model/Direction", "toMinimised", "(D)D"⟩ : MethodName)) (z := (⟨"com/example/pareto_sieve/paretosieve/model/Direction", "toMinimised", "(D)D"⟩ : MethodName)) (tw_3 hw) (tw_4 hw) (notFace_of_selects (args := #[]) (mvT C.2.1 (tw_6 hw))) (tw_6 hw) (tw_5 hw) (tw_7 hw) (tw_1 hw) (by decide) (rm1 l Z a0 hw [] mx (FP.dneg (FP.i2d a1)) mn h0 n0 Z0 Sta_0) eq8 (a := mx) Exa_3 f0_168 (argsL := [(.double (FP.dneg (FP.i2d a1)))]) (rest := []) rfl rfl (lenOf pd_0 rfl) rfl (W := 0) (Nat.le_of_eq rfl) (by decide) (by decide) (by decide) (by decide) ?_
      intro v10 T10 L10 X10 q10
      obtain ⟨rfl, Nq10, eq10⟩ := q10
      have N10 := Fr.app N8 Nq10
      show Go p e below s _ _ _ T10 (mkF m 171 #[.val (.int a9), .val (.int a1), .val (.int a2), .val (.int (0 : Int32)), .val (.ref mx), .val (.double (FP.i2d a1)), .second, .val (.double (FP.i2d a2)), .second, .val (.double (FP.dneg (FP.i2d a1))), .second, .val (.double (FP.dneg (FP.i2d a2))), .second, .val (.int (1 : Int32)), .val (.int (1 : Int32)), .unset] [(.double (R1 mx (FP.dneg (FP.i2d a1)) mn))])
      refine own_foldD (z := (FP.dneg (FP.dneg (FP.i2d a1)))) (own_r2 _ (Ne.symm ne_4)) ?_
      refine wdload C X10 f0_171 rfl ?_
      refine wdcmp C X10 f0_173 (v := (cmpValue (FP.dcmp (FP.dneg (FP.dneg (FP.i2d a1))) (FP.i2d a1)) .l)) rfl ?_
      refine wif_ne C X10 f0_174 ?_ (fun q => absurd ((own_eq (own_dd a1) (own_i2d a1) _).mpr rfl) q)
      intro _
      refine wiconst C X10 f0_177 (1 : Int32) rfl ?_
      refine wgoto C X10 f0_178 ?_
      refine wistore C X10 f0_182 #[.val (.int a9), .val (.int a1), .val (.int a2), .val (.int (0 : Int32)), .val (.ref mx), .val (.double (FP.i2d a1)), .second, .val (.double (FP.i2d a2)), .second, .val (.double (FP.dneg (FP.i2d a1))), .second, .val (.double (FP.dneg (FP.i2d a2))), .second, .val (.int (1 : Int32)), .val (.int (1 : Int32)), .val (.int (1 : Int32))] rfl ?_
      refine wiload C X10 f0_184 rfl ?_
      refine wif_eq C X10 f0_186 (fun q => absurd q (by decide : ¬ ((1 : Int32) = (0 : Int32)))) ?_
      intro _
      refine wiload C X10 f0_189 rfl ?_
      refine wif_eq C X10 f0_191 (fun q => absurd q (by decide : ¬ ((1 : Int32) = (0 : Int32)))) ?_
      intro _
      refine wiload C X10 f0_194 rfl ?_
      refine wif_eq C X10 f0_196 (fun q => absurd q (by decide : ¬ ((1 : Int32) = (0 : Int32)))) ?_
      intro _
      refine wiconst C X10 f0_199 (1 : Int32) rfl ?_
      refine wgoto C X10 f0_200 ?_
      refine wiretN C X10 (t := .boolean) (by simp) f0_204 rfl (1 : Int32) (by decide) (by decide) (by decide) ?_
      rw [eq10]
      exact ⟨rfl, N10⟩
set_option maxRecDepth 65536 in
set_option maxHeartbeats 40000000 in
theorem comes_1 {Post : Tables → Env → Array Value → State → Outcome → State → Prop} (hpost : ∀ tb e args s v u, (limb_1_1.after args s (.returned v) u = true ∧ limb_1_2.after args s (.returned v) u = true ∧ True) → FrameEnd s (.returned v) u (Jvm.fieldLocs frame_1_writes args s ++ Jvm.arrayLocs frame_1_arrays args s ++ Jvm.staticLocs frame_1_statics s) 0 0 → Post tb e args s (.returned v) u) :
    ArmFor flags0 classFile x code maxLocals ret World_1 tables_1 room_1 Calls_1 rest_1 Pre_1 Post := by
  intro l hfl _ _ p e ha hc hk s m args below hf hA hF happ hP
  obtain ⟨hcalls, hrest, hpre⟩ := hP
  obtain ⟨-, -, -, hnamed, -, -, -, hat⟩ := (Spec.applies_iff hf).mp happ
  obtain ⟨hg, hn⟩ := and_e (Cond.before_iff.mp (show (Jvm.Cond.and given_1 narrow_1).before args s = true from hpre))
  obtain ⟨hg0, hr0⟩ := and_e hg
  obtain ⟨hg1, hr1⟩ := and_e hr0
  obtain ⟨hg2, hr2⟩ := and_e hr1
  obtain ⟨w0, w1, w2, rfl⟩ : ∃ w0 w1 w2 : Value, args = #[w0, w1, w2] := by
    have hs : args.size = 3 := by simpa [Cond.value, given_1] using hg0
    obtain ⟨L⟩ := args
    match L, hs with
    | [w0, w1, w2], _ => exact ⟨w0, w1, w2, rfl⟩
  have hw := fun d (hd : d ∈ tables_1) => atoms_spec (ws := Jvm.Cond.code x code maxLocals ret :: tables_1) hat d (List.mem_cons_of_mem _ hd)
  have hfit : Fit s := fun {y c} hc i hi => by
    obtain ⟨ha, rfl⟩ := Array.getElem?_eq_some_iff.mp hc
    have q := List.all_eq_true.mp ((Array.all_eq_true_iff_forall_mem.mp hF) _ (Array.getElem_mem ha)) i (List.mem_range.mpr hi)
    simpa [Array.getElem?_eq_getElem hi] using q
  obtain ⟨i0, ei0⟩ := is_v hg1
  obtain rfl : w0 = (.int i0) := Option.some.inj ei0
  obtain ⟨i1, ei1⟩ := is_v hg2
  obtain rfl : w1 = (.int i1) := Option.some.inj ei1
  obtain ⟨i2, ei2⟩ := is_v hr2
  obtain rfl : w2 = (.int i2) := Option.some.inj ei2
  obtain ⟨hx1, hn1⟩ := and_e hn
  obtain ⟨hx2, hn2⟩ := and_e hn1
  obtain ⟨hx3, hx4⟩ := and_e hn2
  obtain ⟨mn, emn⟩ := exa_v hx1
  obtain ⟨mx, emx⟩ := exa_v hx2
  have hne : mn ≠ mx := fun q => by
    subst q
    have u3 := own_eqi hx3
    have u4 := own_eqi hx4
    rw [fld_at emx] at u3
    rw [fld_at emn] at u4
    rw [u3] at u4
    exact absurd u4 (by decide)
  obtain ⟨n, o, h1, h2, h3, _, L, rfl, ⟨rfl, N⟩, hq⟩ := rm0 l s _ hw tables_1 i0 i1 i2 mn mx s.heap s.heap.size (Nat.le_refl _) (Sta.start emn (Or.inr ⟨(tw_1 hw), (tw_2 hw)⟩)) (Sta.start emx (Or.inr ⟨(tw_1 hw), (tw_10 hw)⟩)) (Exa.start emn hx1) (Exa.start emx hx2) hne p e ha hc hk s m _ below hf ((Spec.applies_iff_loose hf).mp happ).1 ⟨rfl, State.Warmed39.refl s, rfl⟩ trivial
  refine ⟨n, _, h1, h2, h3, hpost _ _ _ _ _ _ ⟨Cond.after_iff.mpr rfl, Cond.after_iff.mpr (eq_i res_at (Term.int_eval (1)) rfl), trivial⟩ ⟨hq.1, hq.2.1, (hq.2.2.sift fun y hy => Or.inr (N y hy)).mono (by decide) (by decide)⟩⟩
theorem main_1_1 : Claimed_1_1 := comes_1 fun _ _ _ _ _ _ h hF => ⟨h.1, hF⟩
theorem main_1_2 : Claimed_1_2 := comes_1 fun _ _ _ _ _ _ h hF => ⟨h.2.1, hF⟩
end Jvm.Pilot.@@N@@
namespace Jvm.Pilot.@@N@@
open Jvm Jvm.ClassFile Sem Op Lib Jvm.Free Jvm.Stand Jvm.Pilot.@@N@@.Jvm.D
/-! MADE BY PROGRAM (witnessworld.py) out of the Statement's table words and the real class files: 12 classes; the members and pool entries that the words name. The judged class is class 1, her method 1. -/
namespace start1
open Jvm.ClassFile
def u (s : String) : CpInfo := .utf8 (stringToUtf16 s)
/-- a pool by its gaps: so many unusable entries, then the entry; so many at the end -/
def gap : Nat → List CpInfo → List CpInfo
  | 0, r => r
  | n + 1, r => .unusable :: gap n r
def poolList (es : List (Nat × CpInfo)) (last : Nat) : List CpInfo := es.foldr (fun e r => gap e.1 (e.2 :: r)) (gap last [])
def pool (es : List (Nat × CpInfo)) (last : Nat) : Array CpInfo := ⟨poolList es last⟩
def fileOf (pool : Array CpInfo) (this : Nat) (attrs : Array Attribute := #[]) (ms : Array MethodInfo := #[]) (fl : Nat := 33) (sup : Nat := 0) (ifs : Array Nat := #[]) (fds : Array FieldInfo := #[]) : ClassFile where
  minorVersion := 0
  majorVersion := 65
  constantPool := pool
  accessFlags := fl
  thisClass := this
  superClass := sup
  interfaces := ifs
  fields := fds
  methods := ms
  attributes := attrs
def plain (name : String) (sup : Option ClassId) : Class where
  name := name
  kind := .ordinary
  loader := none
  accessFlags := 33
  super := sup
  interfaces := #[]
  cf := none
  fields := #[]
  methods := #[]
  instanceTypes := #[]
  staticTypes := #[]
  resolved := #[]
  callSites := []
  init := .initialized
  statics := none
  mirror := none

def pool0 : Array CpInfo := pool [(5, u "<init>"), (0, u "()V"), (1, .class_ 10), (1, u "java/lang/Object")] 113

def k0m0 : Method := { name := "<init>", desc := "()V", sig := { parameters := [], returnType := none }, accessFlags := 1, code := none }
/-- java/lang/Object -/
def k0 : Class := { plain "java/lang/Object" none with
  accessFlags := 33
  interfaces := #[]
  cf := some (fileOf pool0 8 #[] #[{ accessFlags := 1, nameIndex := 5, descriptorIndex := 6, attributes := #[] }] 33 0 #[] #[])
  fields := #[]
  methods := #[k0m0]
  instanceTypes := #[]
  staticTypes := #[]
  resolved := Array.replicate 124 none
  statics := none }

def pool1 : Array CpInfo := pool [(2, .class_ 4), (1, u "java/lang/Object"), (0, u "<init>"), (0, u "()V"), (0, .fieldref 8 9), (0, .class_ 10), (0, .nameAndType 11 12), (0, u "com/example/pareto_sieve/paretosieve/model/Direction"), (0, u "MIN"), (0, u "Lcom/example/pareto_sieve/paretosieve/model/Direction;"), (0, .fieldref 8 14), (0, .nameAndType 15 12), (0, u "MAX"), (0, .methodref 8 17), (0, .nameAndType 18 19), (0, u "toMinimised"), (0, u "(D)D"), (0, .class_ 21), (0, u "com/example/pareto_sieve/paretosieve/model/DirectionToMinimisedPinLaw"), (2, u "law"), (0, u "(III)Z")] 3

def k1m0 : Method := { name := "<init>", desc := "()V", sig := { parameters := [], returnType := none }, accessFlags := 2, code := none }
def k1c1 : Code := { maxStack := 5, maxLocals := 16, code := code, exceptionTable := #[], attributes := #[] }
def k1m1 : Method := { name := "law", desc := "(III)Z", sig := { parameters := [.int, .int, .int], returnType := some .boolean }, accessFlags := 9, code := some k1c1 }
/-- com/example/pareto_sieve/paretosieve/model/DirectionToMinimisedPinLaw -/
def k1 : Class := { plain "com/example/pareto_sieve/paretosieve/model/DirectionToMinimisedPinLaw" (some 0) with
  accessFlags := 49
  interfaces := #[]
  cf := some (fileOf pool1 20 #[] #[{ accessFlags := 2, nameIndex := 5, descriptorIndex := 6, attributes := #[] }, { accessFlags := 9, nameIndex := 24, descriptorIndex := 25, attributes := #[] }] 49 2 #[] #[])
  fields := #[]
  methods := #[k1m0, k1m1]
  instanceTypes := #[]
  staticTypes := #[]
  resolved := Array.replicate 29 none
  statics := none }

def pool2 : Array CpInfo := pool [(1, .class_ 2), (0, u "java/lang/constant/Constable"), (0, .class_ 4), (0, u "java/lang/Object")] 6

/-- java/lang/constant/Constable -/
def k2 : Class := { plain "java/lang/constant/Constable" (some 0) with
  accessFlags := 1537
  interfaces := #[]
  cf := some (fileOf pool2 1 #[] #[] 1537 3 #[] #[])
  fields := #[]
  methods := #[]
  instanceTypes := #[]
  staticTypes := #[]
  resolved := Array.replicate 11 none
  statics := none }

def pool3 : Array CpInfo := pool [(1, .class_ 2), (0, u "java/lang/Comparable"), (0, .class_ 4), (0, u "java/lang/Object")] 7

/-- java/lang/Comparable -/
def k3 : Class := { plain "java/lang/Comparable" (some 0) with
  accessFlags := 1537
  interfaces := #[]
  cf := some (fileOf pool3 1 #[] #[] 1537 3 #[] #[])
  fields := #[]
  methods := #[]
  instanceTypes := #[]
  staticTypes := #[]
  resolved := Array.replicate 12 none
  statics := none }

def pool4 : Array CpInfo := pool [(1, .class_ 2), (0, u "java/io/Serializable"), (0, .class_ 4), (0, u "java/lang/Object")] 2

/-- java/io/Serializable -/
def k4 : Class := { plain "java/io/Serializable" (some 0) with
  accessFlags := 1537
  interfaces := #[]
  cf := some (fileOf pool4 1 #[] #[] 1537 3 #[] #[])
  fields := #[]
  methods := #[]
  instanceTypes := #[]
  staticTypes := #[]
  resolved := Array.replicate 7 none
  statics := none }

def pool5 : Array CpInfo := pool [(2, .class_ 4), (1, u "java/lang/Enum"), (0, u "name"), (0, u "Ljava/lang/String;"), (2, u "ordinal"), (0, u "I"), (1, .class_ 14), (1, u "java/lang/Object"), (4, u "hash"), (86, .class_ 108), (1, u "java/lang/Enum$EnumDesc"), (2, .class_ 112), (0, u "java/lang/constant/Constable"), (0, .class_ 114), (0, u "java/lang/Comparable"), (0, .class_ 116), (0, u "java/io/Serializable")] 87

/-- java/lang/Enum -/
def k5 : Class := { plain "java/lang/Enum" (some 0) with
  accessFlags := 1057
  interfaces := #[2, 3, 4]
  cf := some (fileOf pool5 2 #[.nestMembers #[106]] #[] 1057 12 #[111, 113, 115] #[{ accessFlags := 18, nameIndex := 5, descriptorIndex := 6, attributes := #[] }, { accessFlags := 18, nameIndex := 9, descriptorIndex := 10, attributes := #[] }, { accessFlags := 2, nameIndex := 19, descriptorIndex := 10, attributes := #[] }])
  fields := #[{ name := "name", type := (.object "java/lang/String"), accessFlags := 18, slot := 0, constantValue := 0 }, { name := "ordinal", type := .int, accessFlags := 18, slot := 1, constantValue := 0 }, { name := "hash", type := .int, accessFlags := 2, slot := 2, constantValue := 0 }]
  methods := #[]
  instanceTypes := #[(.object "java/lang/String"), .int, .int]
  staticTypes := #[]
  resolved := Array.replicate 204 none
  statics := none }

def pool6 : Array CpInfo := pool [(1, .class_ 2), (0, u "com/example/pareto_sieve/paretosieve/model/Direction"), (0, .fieldref 1 4), (0, .nameAndType 5 6), (0, u "MIN"), (0, u "Lcom/example/pareto_sieve/paretosieve/model/Direction;"), (2, u "MAX"), (2, u "$VALUES"), (0, u "[Lcom/example/pareto_sieve/paretosieve/model/Direction;"), (6, .class_ 22), (1, u "java/lang/Enum"), (8, u "suffix"), (0, u "Ljava/lang/String;"), (47, u "toMinimised"), (0, u "(D)D")] 20

def k6c0 : Code := { maxStack := 2, maxLocals := 3, code := prog_13_method_6_code, exceptionTable := #[], attributes := #[] }
def k6m0 : Method := { name := "toMinimised", desc := "(D)D", sig := { parameters := [.double], returnType := some .double }, accessFlags := 1, code := some k6c0 }
/-- com/example/pareto_sieve/paretosieve/model/Direction -/
def k6 : Class := { plain "com/example/pareto_sieve/paretosieve/model/Direction" (some 5) with
  accessFlags := 16433
  interfaces := #[]
  cf := some (fileOf pool6 1 #[] #[{ accessFlags := 1, nameIndex := 80, descriptorIndex := 81, attributes := #[] }] 16433 20 #[] #[{ accessFlags := 16409, nameIndex := 5, descriptorIndex := 6, attributes := #[] }, { accessFlags := 16409, nameIndex := 9, descriptorIndex := 6, attributes := #[] }, { accessFlags := 18, nameIndex := 31, descriptorIndex := 32, attributes := #[] }, { accessFlags := 4122, nameIndex := 12, descriptorIndex := 13, attributes := #[] }])
  fields := #[{ name := "MIN", type := (.object "com/example/pareto_sieve/paretosieve/model/Direction"), accessFlags := 16409, slot := 0, constantValue := 0 }, { name := "MAX", type := (.object "com/example/pareto_sieve/paretosieve/model/Direction"), accessFlags := 16409, slot := 1, constantValue := 0 }, { name := "suffix", type := (.object "java/lang/String"), accessFlags := 18, slot := 3, constantValue := 0 }, { name := "$VALUES", type := (.array (.object "com/example/pareto_sieve/paretosieve/model/Direction")), accessFlags := 4122, slot := 2, constantValue := 0 }]
  methods := #[k6m0]
  instanceTypes := #[(.object "java/lang/String"), .int, .int, (.object "java/lang/String")]
  staticTypes := #[(.object "com/example/pareto_sieve/paretosieve/model/Direction"), (.object "com/example/pareto_sieve/paretosieve/model/Direction"), (.array (.object "com/example/pareto_sieve/paretosieve/model/Direction"))]
  resolved := Array.replicate 102 none
  statics := some 0 }

def pool7 : Array CpInfo := pool [(1, u "java/lang/Cloneable"), (0, .class_ 1), (0, u "java/lang/Object"), (0, .class_ 3)] 3

/-- java/lang/Cloneable -/
def k7 : Class := { plain "java/lang/Cloneable" (some 0) with
  accessFlags := 1537
  interfaces := #[]
  cf := some (fileOf pool7 2 #[] #[] 1537 4 #[] #[])
  fields := #[]
  methods := #[]
  instanceTypes := #[]
  staticTypes := #[]
  resolved := Array.replicate 8 none
  statics := none }

/-- the primitive byte -/
def k8 : Class := { plain "byte" none with kind := .primitive 'B', accessFlags := 0x411 }
/-- [B -/
def k9 : Class := { plain "[B" (some 0) with kind := .array 8 .byte, interfaces := #[7, 4], accessFlags := 1041 }

/-- the primitive int -/
def k10 : Class := { plain "int" none with kind := .primitive 'I', accessFlags := 0x411 }
/-- [I -/
def k11 : Class := { plain "[I" (some 0) with kind := .array 10 .int, interfaces := #[7, 4], accessFlags := 1041 }

def heap : Heap := #[{ cls := 6, slots := #[.ref 1, .ref 2, .null], vm := .statics 6 },
  { cls := 6, slots := #[.null, .int 0, .int 0, .null], vm := .none },
  { cls := 6, slots := #[.null, .int 1, .int 0, .null], vm := .none }]
def classes : Array Class := #[k0, k1, k2, k3, k4, k5, k6, k7, k8, k9, k10, k11]
def interned : List (Array UInt16 × Addr) := []
def slotsUsed : Nat := 11
def theMethod : MethodId := ⟨1, 1⟩
def args0 : Array Value := #[.int 5, .int 5, .int 5]
def aboutOver (below : List Frame) : State where
  vm := { classes := classes, interned := interned.toArray }
  heap := heap
  slotsUsed := slotsUsed
  threads := #[{ frames := .invoking theMethod args0 :: below }]
def below0 : List Frame := [.native { method := ⟨0, 0⟩, args := #[] }]
def about1 : State := aboutOver below0
def p0 : Program := .bare "" "" ""
def e0 : Env := launch0.env 0 0 0
theorem w_frames : about1.frames = Frame.invoking theMethod args0 :: below0 := rfl
set_option maxRecDepth 65536 in
theorem w_args : argsFit about1.vm theMethod args0 = true := by decide +kernel
set_option maxRecDepth 65536 in
theorem w_heap : heapFits about1 = true := by decide +kernel
set_option maxRecDepth 65536 in
theorem w_runnable : about1.curStatus? = some .runnable := by decide +kernel
set_option maxRecDepth 65536 in
theorem w_alone : about1.alone = true := by decide +kernel
set_option maxRecDepth 65536 in
theorem w_named : about1.methodNamed? x = some theMethod := by decide +kernel
set_option maxRecDepth 65536 in
theorem w_hears : about1.hears theMethod below0 = true := by decide +kernel
set_option maxRecDepth 65536 in
theorem w_ripe : about1.ripe theMethod args0 below0 = true := by decide +kernel
theorem w_running : about1.status = .running := rfl
set_option maxRecDepth 65536 in
theorem w_room : about1.hasRoom e0.platform room_1 = true :=
  launch0.hasRoom_least _ room_1 (by decide +kernel) (by decide +kernel) (by decide +kernel) (by decide +kernel) (by decide +kernel) (by decide +kernel)
theorem allAtoms_all (ts : List Jvm.Cond) (a : Array Jvm.Value) (st : Jvm.State) : (allAtoms ts).before a st = ts.all (fun c => c.before a st) := by
  induction ts with
  | nil => rfl
  | cons c t ih =>
    show (Jvm.Cond.and c (allAtoms t)).before a st = _
    rw [Jvm.Cond.before_and, ih, List.all_cons]
def words1 : List Jvm.Cond := Jvm.Cond.code x code maxLocals ret :: tables_1
/-- a 'code' word, met by the world's own term for the bytes: nothing is compared byte by byte -/
theorem code_word {y : MethodName} {bytes : ByteArray} {mx : Nat} {rt : Option FieldType} {a : Array Value} {s : State} {m : MethodId} {meth : Method} {c : Code} (h1 : s.methodNamed? y = some m) (h2 : s.vm.method? m = some meth) (h3 : meth.code = some c) (h4 : c.code = bytes)
    (h5 : (c.maxLocals == mx && c.exceptionTable.isEmpty && decide (c.maxStack ≤ mostOperands) && decide (meth.sig.returnType = rt) && !meth.locks && decide (parseMethodDescriptor y.desc = some meth.sig)) = true) : (Jvm.Cond.code y bytes mx rt).before a s = true := by
  simp only [Bool.and_eq_true, beq_iff_eq, Bool.not_eq_true', decide_eq_true_eq] at h5
  obtain ⟨⟨⟨⟨⟨g1, g2⟩, g3⟩, g4⟩, g5⟩, g6⟩ := h5
  simp [Cond.before, Cond.holds, Cond.value, h1, h2, h3, h4, g1, g2, g3, g4, g5, g6]
def isCode : Jvm.Cond → Bool
  | .code _ _ _ _ => true
  | _ => false
theorem all_split {L : List Jvm.Cond} {P : Jvm.Cond → Bool} (h1 : L.all (fun c => isCode c || P c) = true) (h2 : ∀ c ∈ L.filter isCode, P c = true) : L.all P = true := by
  refine List.all_eq_true.mpr fun c hc => ?_
  have h := List.all_eq_true.mp h1 c hc
  rcases Bool.eq_false_or_eq_true (isCode c) with hi | hi
  · exact h2 c (List.mem_filter.mpr ⟨hc, hi⟩)
  · simpa [hi] using h
set_option maxRecDepth 65536 in
theorem w_c0 : (Jvm.Cond.code x code maxLocals ret).before args0 about1 = true := code_word (m := ⟨1, 1⟩) (meth := k1m1) (c := k1c1) (by decide +kernel) rfl rfl rfl (by decide +kernel)
set_option maxRecDepth 65536 in
theorem w_c1 : (Jvm.Cond.code ({ cls := "com/example/pareto_sieve/paretosieve/model/Direction", name := "toMinimised", desc := "(D)D" } : Jvm.MethodName) prog_13_method_6_code (3 : Nat) (Option.some Jvm.ClassFile.FieldType.double)).before args0 about1 = true := code_word (m := ⟨6, 0⟩) (meth := k6m0) (c := k6c0) (by decide +kernel) rfl rfl rfl (by decide +kernel)
def codes1 : List Jvm.Cond := [Jvm.Cond.code x code maxLocals ret, Jvm.Cond.code ({ cls := "com/example/pareto_sieve/paretosieve/model/Direction", name := "toMinimised", desc := "(D)D" } : Jvm.MethodName) prog_13_method_6_code (3 : Nat) (Option.some Jvm.ClassFile.FieldType.double)]
set_option maxRecDepth 65536 in
theorem codes_eq : words1.filter isCode = codes1 := rfl
theorem w_codes : ∀ c ∈ words1.filter isCode, c.before args0 about1 = true := by
  rw [codes_eq]
  intro c hc
  simp only [codes1, List.mem_cons, List.not_mem_nil, or_false] at hc
  rcases hc with rfl | rfl
  · exact w_c0
  · exact w_c1
set_option maxRecDepth 65536 in
theorem w_t1 : words1.all (fun c => isCode c || c.before args0 about1) = true := by decide +kernel
theorem w_tables : (allAtoms (Jvm.Cond.code x code maxLocals ret :: tables_1)).before args0 about1 = true := by
  rw [allAtoms_all]
  show words1.all (fun c => c.before args0 about1) = true
  refine all_split ?_ w_codes
  rw [w_t1]
set_option maxRecDepth 65536 in
theorem w_case : (Jvm.Cond.and given_1 narrow_1).before args0 about1 = true := by decide +kernel
theorem w_applies : (headSpec (Jvm.Cond.code x code maxLocals ret :: tables_1) room_1).applies x e0.platform about1 = true :=
  (Spec.applies_iff w_frames).mpr ⟨w_running, w_runnable, w_alone, w_named, w_hears, w_ripe, w_room, w_tables⟩
theorem atStart : AtStart classFile x code maxLocals ret World_1 tables_1 room_1 Calls_1 rest_1 Pre_1 launch0 p0 e0 about1 theMethod args0 below0 :=
  ⟨lists_1, trivial, launch0.admits_env _ _ _, launch0.least_env, fairChoices_fair.cas, fairChoices_fair.clock, w_frames, w_args, w_heap, w_applies, trivial, trivial, w_case⟩
end start1
theorem witness_1 : WitnessClaimed_1 := ⟨start1.p0, start1.e0, start1.about1, start1.theMethod, start1.args0, start1.below0, start1.atStart⟩
end Jvm.Pilot.@@N@@
