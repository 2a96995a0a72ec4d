import JvmDerived
import JvmDerived.Pilot.@@N@@Statement
import JvmDerived.Pilot.@@N@@Code
set_option linter.unusedVariables false
set_option linter.unusedSimpArgs false

namespace Jvm.Pilot.@@N@@
open Jvm Jvm.ClassFile Sem Op Lib Jvm.Free Jvm.Stand Jvm.LawKit Jvm.RoadKit Bundle Jvm.Pilot.@@N@@.Jvm.D
section Kit
variable {p : Program} {l : Launch} {e : Env} {R : Room} {s : State} {m : MethodId} {args : Array Value} {below : List Frame} {meth : Method} {c : Code} {T : State} {locs : List Loc} {cells slots : Nat} {Z : State} {a0 : Array Value} {bc : ByteArray} {ml : Nat} {own nm : String} {rt : Option FieldType} {Q : Option Value → Heap → List Loc → Prop} {kC kS pc pc' : Nat} {Ls : Array Slot} {S : List Value} {h : Heap}
def Dec (b : ByteArray) (pc : Nat) (i : Instr) (n pc' : Nat) : Prop := decode b pc = .ok (i, n) ∧ pc' = pc + n
def DecJ (b : ByteArray) (pc : Nat) (i : Instr) (o : Int) (tgt nxt : Nat) : Prop := decode b pc = .ok (i, 3) ∧ 0 ≤ (pc : Int) + o ∧ ((pc : Int) + o).toNat = tgt ∧ nxt = pc + 3
def Cur (p : Program) (l : Launch) (e : Env) (s : State) (m : MethodId) (meth : Method) (c : Code) (Z : State) (bc : ByteArray) (ml : Nat) (own nm : String) (rt : Option FieldType) : Prop :=
  p.tables.exec = Jvm.exec ∧ Z.Warmed39 s.vm ∧ c.code = bc ∧ c.maxLocals = ml ∧ s.vm.findClass own = some m.cls ∧ meth.sig.returnType = rt ∧ meth.locks = false ∧ meth.name = nm
def Go (p : Program) (e : Env) (below : List Frame) (s : State) (Q : Option Value → Heap → List Loc → Prop) (kC kS : Nat) (T : State) (f : JFrame) : Prop :=
  ∃ s₂ o, Steps p.tables e below (T.setTop f) s₂ ∧ s₂.status = .running ∧ Ended s₂ below o ∧ ∃ v L, o = .returned v ∧ Q v s₂.heap L ∧ FrameEnd s o s₂ L kC kS
theorem Go.step {T T' : State} {f f' : JFrame} (st : ∀ t, Steps p.tables e below (T'.setTop f') t → Steps p.tables e below (T.setTop f) t) (g : Go p e below s Q kC kS T' f') : Go p e below s Q kC kS T f := by
  obtain ⟨s₂, o, h1, r⟩ := g; exact ⟨s₂, o, st _ h1, r⟩
theorem Go.cast {f f' : JFrame} (q : f = f') (g : Go p e below s Q kC kS T f') : Go p e below s Q kC kS T f := q ▸ g
theorem met_of {y : MethodName} {rm : Room} {as' : Array Value} {h0 : Heap} {ws : List Jvm.Cond} {bytes : ByteArray} {maxL : Nat} {ret : Option FieldType} (hpl : plainFor y = true)
    (body : ∀ {p : Program} {e : Env} {s : State} {m : MethodId} {below : List Frame} {meth : Method} {c : Code} {T : State}, Cur p l e s m meth c Z bytes maxL y.cls y.name ret → Stand p l e rm s m as' below meth c T [] 0 0 → T.heap = h0 → Go p e below s Q rm.cells rm.slots T (entryFrame m as' maxL)) :
    MetFree l y (head1 (Jvm.Cond.code y bytes maxL ret :: ws) rm) (fun a U => a = as' ∧ Z.Warmed39 U.vm ∧ U.heap = h0) (fun _ _ _ _ _ => True) (fun _ U o U' => ∃ v L, o = .returned v ∧ Q v U'.heap L ∧ FrameEnd U o U' L rm.cells rm.slots) := by
  refine MetFree.of_bodySF hpl hisR ?_
  intro p e s m args below meth c s₁ Bd hml0 hP hK
  obtain ⟨rfl, hZ, hh⟩ := hP
  exact body ⟨Bd.exec, hZ, Bd.bytes, hml0, findClass_of_methodNamed Bd.named, Bd.returns, Bd.notSynchronized, (name_of_methodNamed Bd.named Bd.method).1⟩ (Stand.of_body Bd) (by rw [← hh, Bd.state]; rfl)
theorem wiloadN (C : Cur p l e s m meth c Z bc ml own nm rt) (X : Stand p l e R s m args below meth c T locs cells slots) {k : Fin 4} {v : Int32} (hd : Dec bc pc (.iload_n k) 1 pc') (hl : Ls[k.val]? = some (.val (.int v))) (g : Go p e below s Q kC kS T (mkF m pc' Ls (.int v :: S))) : Go p e below s Q kC kS T (mkF m pc Ls S) :=
  Go.step (fun _ k => XS.iloadN X.here C.1 rfl (hb C.2.2.1 hd.1) hl k) (by rw [hd.2] at g; exact g)
theorem wiload (C : Cur p l e s m meth c Z bc ml own nm rt) (X : Stand p l e R s m args below meth c T locs cells slots) {k : Nat} {v : Int32} (hd : Dec bc pc (.iload k) 2 pc') (hl : Ls[k]? = some (.val (.int v))) (g : Go p e below s Q kC kS T (mkF m pc' Ls (.int v :: S))) : Go p e below s Q kC kS T (mkF m pc Ls S) :=
  Go.step (fun _ k => XS.iload X.here C.1 rfl (hb C.2.2.1 hd.1) hl k) (by rw [hd.2] at g; exact g)
theorem wistoreN (C : Cur p l e s m meth c Z bc ml own nm rt) (X : Stand p l e R s m args below meth c T locs cells slots) {k : Fin 4} {v : Int32} (hd : Dec bc pc (.istore_n k) 1 pc') (l' : Array Slot) (hl : storeLocals Ls k.val (.int v) = some l') (g : Go p e below s Q kC kS T (mkF m pc' l' S)) : Go p e below s Q kC kS T (mkF m pc Ls (.int v :: S)) :=
  Go.step (fun _ k => XS.istoreN X.here C.1 rfl (hb C.2.2.1 hd.1) rfl hl k) (by rw [hd.2] at g; exact g)
theorem wistore (C : Cur p l e s m meth c Z bc ml own nm rt) (X : Stand p l e R s m args below meth c T locs cells slots) {k : Nat} {v : Int32} (hd : Dec bc pc (.istore k) 2 pc') (l' : Array Slot) (hl : storeLocals Ls k (.int v) = some l') (g : Go p e below s Q kC kS T (mkF m pc' l' S)) : Go p e below s Q kC kS T (mkF m pc Ls (.int v :: S)) :=
  Go.step (fun _ k => XS.istore X.here C.1 rfl (hb C.2.2.1 hd.1) rfl hl k) (by rw [hd.2] at g; exact g)
theorem wlloadN (C : Cur p l e s m meth c Z bc ml own nm rt) (X : Stand p l e R s m args below meth c T locs cells slots) {k : Fin 4} {v : Int64} (hd : Dec bc pc (.lload_n k) 1 pc') (hl : Ls[k.val]? = some (.val (.long v))) (g : Go p e below s Q kC kS T (mkF m pc' Ls (.long v :: S))) : Go p e below s Q kC kS T (mkF m pc Ls S) :=
  Go.step (fun _ k => XS.lloadN X.here C.1 rfl (hb C.2.2.1 hd.1) hl k) (by rw [hd.2] at g; exact g)
theorem wlload (C : Cur p l e s m meth c Z bc ml own nm rt) (X : Stand p l e R s m args below meth c T locs cells slots) {k : Nat} {v : Int64} (hd : Dec bc pc (.lload k) 2 pc') (hl : Ls[k]? = some (.val (.long v))) (g : Go p e below s Q kC kS T (mkF m pc' Ls (.long v :: S))) : Go p e below s Q kC kS T (mkF m pc Ls S) :=
  Go.step (fun _ k => XS.lload X.here C.1 rfl (hb C.2.2.1 hd.1) hl k) (by rw [hd.2] at g; exact g)
theorem wlstoreN (C : Cur p l e s m meth c Z bc ml own nm rt) (X : Stand p l e R s m args below meth c T locs cells slots) {k : Fin 4} {v : Int64} (hd : Dec bc pc (.lstore_n k) 1 pc') (l' : Array Slot) (hl : storeLocals Ls k.val (.long v) = some l') (g : Go p e below s Q kC kS T (mkF m pc' l' S)) : Go p e below s Q kC kS T (mkF m pc Ls (.long v :: S)) :=
  Go.step (fun _ k => XS.lstoreN X.here C.1 rfl (hb C.2.2.1 hd.1) rfl hl k) (by rw [hd.2] at g; exact g)
theorem wlstore (C : Cur p l e s m meth c Z bc ml own nm rt) (X : Stand p l e R s m args below meth c T locs cells slots) {k : Nat} {v : Int64} (hd : Dec bc pc (.lstore k) 2 pc') (l' : Array Slot) (hl : storeLocals Ls k (.long v) = some l') (g : Go p e below s Q kC kS T (mkF m pc' l' S)) : Go p e below s Q kC kS T (mkF m pc Ls (.long v :: S)) :=
  Go.step (fun _ k => XS.lstore X.here C.1 rfl (hb C.2.2.1 hd.1) rfl hl k) (by rw [hd.2] at g; exact g)
theorem wdloadN (C : Cur p l e s m meth c Z bc ml own nm rt) (X : Stand p l e R s m args below meth c T locs cells slots) {k : Fin 4} {v : UInt64} (hd : Dec bc pc (.dload_n k) 1 pc') (hl : Ls[k.val]? = some (.val (.double v))) (g : Go p e below s Q kC kS T (mkF m pc' Ls (.double v :: S))) : Go p e below s Q kC kS T (mkF m pc Ls S) :=
  Go.step (fun _ k => XS.dloadN X.here C.1 rfl (hb C.2.2.1 hd.1) hl k) (by rw [hd.2] at g; exact g)
theorem wdload (C : Cur p l e s m meth c Z bc ml own nm rt) (X : Stand p l e R s m args below meth c T locs cells slots) {k : Nat} {v : UInt64} (hd : Dec bc pc (.dload k) 2 pc') (hl : Ls[k]? = some (.val (.double v))) (g : Go p e below s Q kC kS T (mkF m pc' Ls (.double v :: S))) : Go p e below s Q kC kS T (mkF m pc Ls S) :=
  Go.step (fun _ k => XS.dload X.here C.1 rfl (hb C.2.2.1 hd.1) hl k) (by rw [hd.2] at g; exact g)
theorem wdstoreN (C : Cur p l e s m meth c Z bc ml own nm rt) (X : Stand p l e R s m args below meth c T locs cells slots) {k : Fin 4} {v : UInt64} (hd : Dec bc pc (.dstore_n k) 1 pc') (l' : Array Slot) (hl : storeLocals Ls k.val (.double v) = some l') (g : Go p e below s Q kC kS T (mkF m pc' l' S)) : Go p e below s Q kC kS T (mkF m pc Ls (.double v :: S)) :=
  Go.step (fun _ k => XS.dstoreN X.here C.1 rfl (hb C.2.2.1 hd.1) rfl hl k) (by rw [hd.2] at g; exact g)
theorem wdstore (C : Cur p l e s m meth c Z bc ml own nm rt) (X : Stand p l e R s m args below meth c T locs cells slots) {k : Nat} {v : UInt64} (hd : Dec bc pc (.dstore k) 2 pc') (l' : Array Slot) (hl : storeLocals Ls k (.double v) = some l') (g : Go p e below s Q kC kS T (mkF m pc' l' S)) : Go p e below s Q kC kS T (mkF m pc Ls (.double v :: S)) :=
  Go.step (fun _ k => XS.dstore X.here C.1 rfl (hb C.2.2.1 hd.1) rfl hl k) (by rw [hd.2] at g; exact g)
theorem waloadN (C : Cur p l e s m meth c Z bc ml own nm rt) (X : Stand p l e R s m args below meth c T locs cells slots) {k : Fin 4} {v : Value} (hd : Dec bc pc (.aload_n k) 1 pc') (hl : Ls[k.val]? = some (.val v)) (hv : v.isRef = true) (g : Go p e below s Q kC kS T (mkF m pc' Ls (v :: S))) : Go p e below s Q kC kS T (mkF m pc Ls S) :=
  Go.step (fun _ k => XS.aloadN X.here C.1 rfl (hb C.2.2.1 hd.1) hl hv k) (by rw [hd.2] at g; exact g)
theorem waload (C : Cur p l e s m meth c Z bc ml own nm rt) (X : Stand p l e R s m args below meth c T locs cells slots) {k : Nat} {v : Value} (hd : Dec bc pc (.aload k) 2 pc') (hl : Ls[k]? = some (.val v)) (hv : v.isRef = true) (g : Go p e below s Q kC kS T (mkF m pc' Ls (v :: S))) : Go p e below s Q kC kS T (mkF m pc Ls S) :=
  Go.step (fun _ k => XS.aload X.here C.1 rfl (hb C.2.2.1 hd.1) hl hv k) (by rw [hd.2] at g; exact g)
theorem wastoreN (C : Cur p l e s m meth c Z bc ml own nm rt) (X : Stand p l e R s m args below meth c T locs cells slots) {k : Fin 4} {v : Value} (hd : Dec bc pc (.astore_n k) 1 pc') (l' : Array Slot) (hv : v.isRef = true) (hl : storeLocals Ls k.val v = some l') (g : Go p e below s Q kC kS T (mkF m pc' l' S)) : Go p e below s Q kC kS T (mkF m pc Ls (v :: S)) :=
  Go.step (fun _ k => XS.astoreN X.here C.1 rfl (hb C.2.2.1 hd.1) rfl hv hl k) (by rw [hd.2] at g; exact g)
theorem wastore (C : Cur p l e s m meth c Z bc ml own nm rt) (X : Stand p l e R s m args below meth c T locs cells slots) {k : Nat} {v : Value} (hd : Dec bc pc (.astore k) 2 pc') (l' : Array Slot) (hv : v.isRef = true) (hl : storeLocals Ls k v = some l') (g : Go p e below s Q kC kS T (mkF m pc' l' S)) : Go p e below s Q kC kS T (mkF m pc Ls (v :: S)) :=
  Go.step (fun _ k => XS.astore X.here C.1 rfl (hb C.2.2.1 hd.1) rfl hv hl k) (by rw [hd.2] at g; exact g)
theorem wiconst (C : Cur p l e s m meth c Z bc ml own nm rt) (X : Stand p l e R s m args below meth c T locs cells slots) {i : Int} (hd : Dec bc pc (.iconst i) 1 pc') (z : Int32) (hz : Int32.ofInt i = z) (g : Go p e below s Q kC kS T (mkF m pc' Ls (.int z :: S))) : Go p e below s Q kC kS T (mkF m pc Ls S) :=
  Go.step (fun _ k => XS.iconst X.here C.1 rfl (hb C.2.2.1 hd.1) (by rw [hz]; exact k)) (by rw [hd.2] at g; exact g)
theorem wbipush (C : Cur p l e s m meth c Z bc ml own nm rt) (X : Stand p l e R s m args below meth c T locs cells slots) {i : Int} (hd : Dec bc pc (.bipush i) 2 pc') (z : Int32) (hz : (Int8.ofInt i).toInt32 = z) (g : Go p e below s Q kC kS T (mkF m pc' Ls (.int z :: S))) : Go p e below s Q kC kS T (mkF m pc Ls S) :=
  Go.step (fun _ k => XS.bipush X.here C.1 rfl (hb C.2.2.1 hd.1) (by rw [hz]; exact k)) (by rw [hd.2] at g; exact g)
theorem wsipush (C : Cur p l e s m meth c Z bc ml own nm rt) (X : Stand p l e R s m args below meth c T locs cells slots) {i : Int} (hd : Dec bc pc (.sipush i) 3 pc') (z : Int32) (hz : (Int16.ofInt i).toInt32 = z) (g : Go p e below s Q kC kS T (mkF m pc' Ls (.int z :: S))) : Go p e below s Q kC kS T (mkF m pc Ls S) :=
  Go.step (fun _ k => XS.sipush X.here C.1 rfl (hb C.2.2.1 hd.1) (by rw [hz]; exact k)) (by rw [hd.2] at g; exact g)
theorem wlconst0 (C : Cur p l e s m meth c Z bc ml own nm rt) (X : Stand p l e R s m args below meth c T locs cells slots) (hd : Dec bc pc (.lconst 0) 1 pc') (g : Go p e below s Q kC kS T (mkF m pc' Ls (.long 0 :: S))) : Go p e below s Q kC kS T (mkF m pc Ls S) :=
  Go.step (fun _ k => XS.lconst X.here C.1 rfl (hb C.2.2.1 hd.1) k) (by rw [hd.2] at g; exact g)
theorem wlconst1 (C : Cur p l e s m meth c Z bc ml own nm rt) (X : Stand p l e R s m args below meth c T locs cells slots) (hd : Dec bc pc (.lconst 1) 1 pc') (g : Go p e below s Q kC kS T (mkF m pc' Ls (.long 1 :: S))) : Go p e below s Q kC kS T (mkF m pc Ls S) :=
  Go.step (fun _ k => XS.lconst X.here C.1 rfl (hb C.2.2.1 hd.1) k) (by rw [hd.2] at g; exact g)
theorem wdconst0 (C : Cur p l e s m meth c Z bc ml own nm rt) (X : Stand p l e R s m args below meth c T locs cells slots) (hd : Dec bc pc (.dconst 0) 1 pc') (g : Go p e below s Q kC kS T (mkF m pc' Ls (.double FP.dconst0 :: S))) : Go p e below s Q kC kS T (mkF m pc Ls S) :=
  Go.step (fun _ k => XS.dconst0 X.here C.1 rfl (hb C.2.2.1 hd.1) rfl k) (by rw [hd.2] at g; exact g)
theorem wdconst1 (C : Cur p l e s m meth c Z bc ml own nm rt) (X : Stand p l e R s m args below meth c T locs cells slots) (hd : Dec bc pc (.dconst 1) 1 pc') (g : Go p e below s Q kC kS T (mkF m pc' Ls (.double FP.dconst1 :: S))) : Go p e below s Q kC kS T (mkF m pc Ls S) :=
  Go.step (fun _ k => XS.dconst1 X.here C.1 rfl (hb C.2.2.1 hd.1) rfl k) (by rw [hd.2] at g; exact g)
theorem wnull (C : Cur p l e s m meth c Z bc ml own nm rt) (X : Stand p l e R s m args below meth c T locs cells slots) (hd : Dec bc pc (.aconst_null) 1 pc') (g : Go p e below s Q kC kS T (mkF m pc' Ls (.null :: S))) : Go p e below s Q kC kS T (mkF m pc Ls S) :=
  Go.step (fun _ k => XS.aconstNull X.here C.1 rfl (hb C.2.2.1 hd.1) k) (by rw [hd.2] at g; exact g)
theorem wiadd (C : Cur p l e s m meth c Z bc ml own nm rt) (X : Stand p l e R s m args below meth c T locs cells slots) {x y : Int32} (hd : Dec bc pc (.iadd) 1 pc') (g : Go p e below s Q kC kS T (mkF m pc' Ls (.int (x + y) :: S))) : Go p e below s Q kC kS T (mkF m pc Ls (.int y :: .int x :: S)) :=
  Go.step (fun _ k => XS.iadd X.here C.1 rfl (hb C.2.2.1 hd.1) rfl k) (by rw [hd.2] at g; exact g)
theorem wisub (C : Cur p l e s m meth c Z bc ml own nm rt) (X : Stand p l e R s m args below meth c T locs cells slots) {x y : Int32} (hd : Dec bc pc (.isub) 1 pc') (g : Go p e below s Q kC kS T (mkF m pc' Ls (.int (x - y) :: S))) : Go p e below s Q kC kS T (mkF m pc Ls (.int y :: .int x :: S)) :=
  Go.step (fun _ k => XS.isub X.here C.1 rfl (hb C.2.2.1 hd.1) rfl k) (by rw [hd.2] at g; exact g)
theorem wimul (C : Cur p l e s m meth c Z bc ml own nm rt) (X : Stand p l e R s m args below meth c T locs cells slots) {x y : Int32} (hd : Dec bc pc (.imul) 1 pc') (g : Go p e below s Q kC kS T (mkF m pc' Ls (.int (x * y) :: S))) : Go p e below s Q kC kS T (mkF m pc Ls (.int y :: .int x :: S)) :=
  Go.step (fun _ k => XS.imul X.here C.1 rfl (hb C.2.2.1 hd.1) rfl k) (by rw [hd.2] at g; exact g)
theorem wiand (C : Cur p l e s m meth c Z bc ml own nm rt) (X : Stand p l e R s m args below meth c T locs cells slots) {x y : Int32} (hd : Dec bc pc (.iand) 1 pc') (g : Go p e below s Q kC kS T (mkF m pc' Ls (.int (x &&& y) :: S))) : Go p e below s Q kC kS T (mkF m pc Ls (.int y :: .int x :: S)) :=
  Go.step (fun _ k => XS.iand X.here C.1 rfl (hb C.2.2.1 hd.1) rfl k) (by rw [hd.2] at g; exact g)
theorem wior (C : Cur p l e s m meth c Z bc ml own nm rt) (X : Stand p l e R s m args below meth c T locs cells slots) {x y : Int32} (hd : Dec bc pc (.ior) 1 pc') (g : Go p e below s Q kC kS T (mkF m pc' Ls (.int (x ||| y) :: S))) : Go p e below s Q kC kS T (mkF m pc Ls (.int y :: .int x :: S)) :=
  Go.step (fun _ k => XS.ior X.here C.1 rfl (hb C.2.2.1 hd.1) rfl k) (by rw [hd.2] at g; exact g)
theorem wixor (C : Cur p l e s m meth c Z bc ml own nm rt) (X : Stand p l e R s m args below meth c T locs cells slots) {x y : Int32} (hd : Dec bc pc (.ixor) 1 pc') (g : Go p e below s Q kC kS T (mkF m pc' Ls (.int (x ^^^ y) :: S))) : Go p e below s Q kC kS T (mkF m pc Ls (.int y :: .int x :: S)) :=
  Go.step (fun _ k => XS.ixor X.here C.1 rfl (hb C.2.2.1 hd.1) rfl k) (by rw [hd.2] at g; exact g)
theorem wishl (C : Cur p l e s m meth c Z bc ml own nm rt) (X : Stand p l e R s m args below meth c T locs cells slots) {x y : Int32} (hd : Dec bc pc (.ishl) 1 pc') (g : Go p e below s Q kC kS T (mkF m pc' Ls (.int (x <<< (y &&& 31)) :: S))) : Go p e below s Q kC kS T (mkF m pc Ls (.int y :: .int x :: S)) :=
  Go.step (fun _ k => XS.ishl X.here C.1 rfl (hb C.2.2.1 hd.1) rfl k) (by rw [hd.2] at g; exact g)
theorem wishr (C : Cur p l e s m meth c Z bc ml own nm rt) (X : Stand p l e R s m args below meth c T locs cells slots) {x y : Int32} (hd : Dec bc pc (.ishr) 1 pc') (g : Go p e below s Q kC kS T (mkF m pc' Ls (.int (x >>> (y &&& 31)) :: S))) : Go p e below s Q kC kS T (mkF m pc Ls (.int y :: .int x :: S)) :=
  Go.step (fun _ k => XS.ishr X.here C.1 rfl (hb C.2.2.1 hd.1) rfl k) (by rw [hd.2] at g; exact g)
theorem wiushr (C : Cur p l e s m meth c Z bc ml own nm rt) (X : Stand p l e R s m args below meth c T locs cells slots) {x y : Int32} (hd : Dec bc pc (.iushr) 1 pc') (g : Go p e below s Q kC kS T (mkF m pc' Ls (.int ((x.toUInt32 >>> (y &&& 31).toUInt32).toInt32) :: S))) : Go p e below s Q kC kS T (mkF m pc Ls (.int y :: .int x :: S)) :=
  Go.step (fun _ k => XS.iushr X.here C.1 rfl (hb C.2.2.1 hd.1) rfl k) (by rw [hd.2] at g; exact g)
theorem wladd (C : Cur p l e s m meth c Z bc ml own nm rt) (X : Stand p l e R s m args below meth c T locs cells slots) {x y : Int64} (hd : Dec bc pc (.ladd) 1 pc') (g : Go p e below s Q kC kS T (mkF m pc' Ls (.long (x + y) :: S))) : Go p e below s Q kC kS T (mkF m pc Ls (.long y :: .long x :: S)) :=
  Go.step (fun _ k => XS.ladd X.here C.1 rfl (hb C.2.2.1 hd.1) rfl k) (by rw [hd.2] at g; exact g)
theorem wlsub (C : Cur p l e s m meth c Z bc ml own nm rt) (X : Stand p l e R s m args below meth c T locs cells slots) {x y : Int64} (hd : Dec bc pc (.lsub) 1 pc') (g : Go p e below s Q kC kS T (mkF m pc' Ls (.long (x - y) :: S))) : Go p e below s Q kC kS T (mkF m pc Ls (.long y :: .long x :: S)) :=
  Go.step (fun _ k => XS.lsub X.here C.1 rfl (hb C.2.2.1 hd.1) rfl k) (by rw [hd.2] at g; exact g)
theorem wlmul (C : Cur p l e s m meth c Z bc ml own nm rt) (X : Stand p l e R s m args below meth c T locs cells slots) {x y : Int64} (hd : Dec bc pc (.lmul) 1 pc') (g : Go p e below s Q kC kS T (mkF m pc' Ls (.long (x * y) :: S))) : Go p e below s Q kC kS T (mkF m pc Ls (.long y :: .long x :: S)) :=
  Go.step (fun _ k => XS.lmul X.here C.1 rfl (hb C.2.2.1 hd.1) rfl k) (by rw [hd.2] at g; exact g)
theorem wland (C : Cur p l e s m meth c Z bc ml own nm rt) (X : Stand p l e R s m args below meth c T locs cells slots) {x y : Int64} (hd : Dec bc pc (.land) 1 pc') (g : Go p e below s Q kC kS T (mkF m pc' Ls (.long (x &&& y) :: S))) : Go p e below s Q kC kS T (mkF m pc Ls (.long y :: .long x :: S)) :=
  Go.step (fun _ k => XS.land X.here C.1 rfl (hb C.2.2.1 hd.1) rfl k) (by rw [hd.2] at g; exact g)
theorem wlor (C : Cur p l e s m meth c Z bc ml own nm rt) (X : Stand p l e R s m args below meth c T locs cells slots) {x y : Int64} (hd : Dec bc pc (.lor) 1 pc') (g : Go p e below s Q kC kS T (mkF m pc' Ls (.long (x ||| y) :: S))) : Go p e below s Q kC kS T (mkF m pc Ls (.long y :: .long x :: S)) :=
  Go.step (fun _ k => XS.lor X.here C.1 rfl (hb C.2.2.1 hd.1) rfl k) (by rw [hd.2] at g; exact g)
theorem wlxor (C : Cur p l e s m meth c Z bc ml own nm rt) (X : Stand p l e R s m args below meth c T locs cells slots) {x y : Int64} (hd : Dec bc pc (.lxor) 1 pc') (g : Go p e below s Q kC kS T (mkF m pc' Ls (.long (x ^^^ y) :: S))) : Go p e below s Q kC kS T (mkF m pc Ls (.long y :: .long x :: S)) :=
  Go.step (fun _ k => XS.lxor X.here C.1 rfl (hb C.2.2.1 hd.1) rfl k) (by rw [hd.2] at g; exact g)
theorem wlshl (C : Cur p l e s m meth c Z bc ml own nm rt) (X : Stand p l e R s m args below meth c T locs cells slots) {x : Int64} {y : Int32} (hd : Dec bc pc (.lshl) 1 pc') (g : Go p e below s Q kC kS T (mkF m pc' Ls (.long (x <<< (y &&& 0x3f).toInt64) :: S))) : Go p e below s Q kC kS T (mkF m pc Ls (.int y :: .long x :: S)) :=
  Go.step (fun _ k => XS.lshl X.here C.1 rfl (hb C.2.2.1 hd.1) rfl k) (by rw [hd.2] at g; exact g)
theorem wlshr (C : Cur p l e s m meth c Z bc ml own nm rt) (X : Stand p l e R s m args below meth c T locs cells slots) {x : Int64} {y : Int32} (hd : Dec bc pc (.lshr) 1 pc') (g : Go p e below s Q kC kS T (mkF m pc' Ls (.long (x >>> (y &&& 0x3f).toInt64) :: S))) : Go p e below s Q kC kS T (mkF m pc Ls (.int y :: .long x :: S)) :=
  Go.step (fun _ k => XS.lshr X.here C.1 rfl (hb C.2.2.1 hd.1) rfl k) (by rw [hd.2] at g; exact g)
theorem wlushr (C : Cur p l e s m meth c Z bc ml own nm rt) (X : Stand p l e R s m args below meth c T locs cells slots) {x : Int64} {y : Int32} (hd : Dec bc pc (.lushr) 1 pc') (g : Go p e below s Q kC kS T (mkF m pc' Ls (.long ((x.toUInt64 >>> (y &&& 0x3f).toInt64.toUInt64).toInt64) :: S))) : Go p e below s Q kC kS T (mkF m pc Ls (.int y :: .long x :: S)) :=
  Go.step (fun _ k => XS.lushr X.here C.1 rfl (hb C.2.2.1 hd.1) rfl k) (by rw [hd.2] at g; exact g)
theorem widiv (C : Cur p l e s m meth c Z bc ml own nm rt) (X : Stand p l e R s m args below meth c T locs cells slots) {x y : Int32} (hd : Dec bc pc (.idiv) 1 pc') (hy : y ≠ 0) (g : Go p e below s Q kC kS T (mkF m pc' Ls (.int (x / y) :: S))) : Go p e below s Q kC kS T (mkF m pc Ls (.int y :: .int x :: S)) :=
  Go.step (fun _ k => XS.idiv X.here C.1 rfl (hb C.2.2.1 hd.1) rfl hy k) (by rw [hd.2] at g; exact g)
theorem wirem (C : Cur p l e s m meth c Z bc ml own nm rt) (X : Stand p l e R s m args below meth c T locs cells slots) {x y : Int32} (hd : Dec bc pc (.irem) 1 pc') (hy : y ≠ 0) (g : Go p e below s Q kC kS T (mkF m pc' Ls (.int (x % y) :: S))) : Go p e below s Q kC kS T (mkF m pc Ls (.int y :: .int x :: S)) :=
  Go.step (fun _ k => iremM X C.1 rfl (hb C.2.2.1 hd.1) rfl hy k) (by rw [hd.2] at g; exact g)
theorem wldiv (C : Cur p l e s m meth c Z bc ml own nm rt) (X : Stand p l e R s m args below meth c T locs cells slots) {x y : Int64} (hd : Dec bc pc (.ldiv) 1 pc') (hy : y ≠ 0) (g : Go p e below s Q kC kS T (mkF m pc' Ls (.long (x / y) :: S))) : Go p e below s Q kC kS T (mkF m pc Ls (.long y :: .long x :: S)) :=
  Go.step (fun _ k => XS.ldiv X.here C.1 rfl (hb C.2.2.1 hd.1) rfl hy k) (by rw [hd.2] at g; exact g)
theorem wineg (C : Cur p l e s m meth c Z bc ml own nm rt) (X : Stand p l e R s m args below meth c T locs cells slots) {x : Int32} (hd : Dec bc pc (.ineg) 1 pc') (g : Go p e below s Q kC kS T (mkF m pc' Ls (.int (-x) :: S))) : Go p e below s Q kC kS T (mkF m pc Ls (.int x :: S)) :=
  Go.step (fun _ k => XS.ineg X.here C.1 rfl (hb C.2.2.1 hd.1) rfl k) (by rw [hd.2] at g; exact g)
theorem wi2l (C : Cur p l e s m meth c Z bc ml own nm rt) (X : Stand p l e R s m args below meth c T locs cells slots) {x : Int32} (hd : Dec bc pc (.i2l) 1 pc') (g : Go p e below s Q kC kS T (mkF m pc' Ls (.long (x.toInt64) :: S))) : Go p e below s Q kC kS T (mkF m pc Ls (.int x :: S)) :=
  Go.step (fun _ k => XS.i2l X.here C.1 rfl (hb C.2.2.1 hd.1) rfl k) (by rw [hd.2] at g; exact g)
theorem wl2i (C : Cur p l e s m meth c Z bc ml own nm rt) (X : Stand p l e R s m args below meth c T locs cells slots) {x : Int64} (hd : Dec bc pc (.l2i) 1 pc') (g : Go p e below s Q kC kS T (mkF m pc' Ls (.int (x.toInt32) :: S))) : Go p e below s Q kC kS T (mkF m pc Ls (.long x :: S)) :=
  Go.step (fun _ k => XS.l2i X.here C.1 rfl (hb C.2.2.1 hd.1) rfl k) (by rw [hd.2] at g; exact g)
theorem wi2b (C : Cur p l e s m meth c Z bc ml own nm rt) (X : Stand p l e R s m args below meth c T locs cells slots) {x : Int32} (hd : Dec bc pc (.i2b) 1 pc') (g : Go p e below s Q kC kS T (mkF m pc' Ls (.int (x.toInt8.toInt32) :: S))) : Go p e below s Q kC kS T (mkF m pc Ls (.int x :: S)) :=
  Go.step (fun _ k => XS.i2b X.here C.1 rfl (hb C.2.2.1 hd.1) rfl k) (by rw [hd.2] at g; exact g)
theorem wi2s (C : Cur p l e s m meth c Z bc ml own nm rt) (X : Stand p l e R s m args below meth c T locs cells slots) {x : Int32} (hd : Dec bc pc (.i2s) 1 pc') (g : Go p e below s Q kC kS T (mkF m pc' Ls (.int (x.toInt16.toInt32) :: S))) : Go p e below s Q kC kS T (mkF m pc Ls (.int x :: S)) :=
  Go.step (fun _ k => XS.i2s X.here C.1 rfl (hb C.2.2.1 hd.1) rfl k) (by rw [hd.2] at g; exact g)
theorem wi2c (C : Cur p l e s m meth c Z bc ml own nm rt) (X : Stand p l e R s m args below meth c T locs cells slots) {x : Int32} (hd : Dec bc pc (.i2c) 1 pc') (g : Go p e below s Q kC kS T (mkF m pc' Ls (.int (x.toUInt32.toUInt16.toUInt32.toInt32) :: S))) : Go p e below s Q kC kS T (mkF m pc Ls (.int x :: S)) :=
  Go.step (fun _ k => XS.i2c X.here C.1 rfl (hb C.2.2.1 hd.1) rfl k) (by rw [hd.2] at g; exact g)
theorem wlneg (C : Cur p l e s m meth c Z bc ml own nm rt) (X : Stand p l e R s m args below meth c T locs cells slots) {x : Int64} (hd : Dec bc pc (.lneg) 1 pc') (g : Go p e below s Q kC kS T (mkF m pc' Ls (.long (-x) :: S))) : Go p e below s Q kC kS T (mkF m pc Ls (.long x :: S)) :=
  Go.step (fun _ k => XS.lneg X.here C.1 rfl (hb C.2.2.1 hd.1) rfl k) (by rw [hd.2] at g; exact g)
theorem wi2d (C : Cur p l e s m meth c Z bc ml own nm rt) (X : Stand p l e R s m args below meth c T locs cells slots) {x : Int32} (hd : Dec bc pc (.i2d) 1 pc') (g : Go p e below s Q kC kS T (mkF m pc' Ls (.double (FP.i2d x) :: S))) : Go p e below s Q kC kS T (mkF m pc Ls (.int x :: S)) :=
  Go.step (fun _ k => XS.i2dS X.here C.1 rfl (hb C.2.2.1 hd.1) rfl rfl k) (by rw [hd.2] at g; exact g)
theorem wl2d (C : Cur p l e s m meth c Z bc ml own nm rt) (X : Stand p l e R s m args below meth c T locs cells slots) {x : Int64} (hd : Dec bc pc (.l2d) 1 pc') (g : Go p e below s Q kC kS T (mkF m pc' Ls (.double (FP.l2d x) :: S))) : Go p e below s Q kC kS T (mkF m pc Ls (.long x :: S)) :=
  Go.step (fun _ k => XS.l2dS X.here C.1 rfl (hb C.2.2.1 hd.1) rfl rfl k) (by rw [hd.2] at g; exact g)
theorem wd2i (C : Cur p l e s m meth c Z bc ml own nm rt) (X : Stand p l e R s m args below meth c T locs cells slots) {x : UInt64} (hd : Dec bc pc (.d2i) 1 pc') (g : Go p e below s Q kC kS T (mkF m pc' Ls (.int (FP.d2i x) :: S))) : Go p e below s Q kC kS T (mkF m pc Ls (.double x :: S)) :=
  Go.step (fun _ k => XS.d2iS X.here C.1 rfl (hb C.2.2.1 hd.1) rfl rfl k) (by rw [hd.2] at g; exact g)
theorem wd2l (C : Cur p l e s m meth c Z bc ml own nm rt) (X : Stand p l e R s m args below meth c T locs cells slots) {x : UInt64} (hd : Dec bc pc (.d2l) 1 pc') (g : Go p e below s Q kC kS T (mkF m pc' Ls (.long (FP.d2l x) :: S))) : Go p e below s Q kC kS T (mkF m pc Ls (.double x :: S)) :=
  Go.step (fun _ k => XS.d2lS X.here C.1 rfl (hb C.2.2.1 hd.1) rfl rfl k) (by rw [hd.2] at g; exact g)
theorem wdneg (C : Cur p l e s m meth c Z bc ml own nm rt) (X : Stand p l e R s m args below meth c T locs cells slots) {x : UInt64} (hd : Dec bc pc (.dneg) 1 pc') (g : Go p e below s Q kC kS T (mkF m pc' Ls (.double (FP.dneg x) :: S))) : Go p e below s Q kC kS T (mkF m pc Ls (.double x :: S)) :=
  Go.step (fun _ k => XS.dnegS X.here C.1 rfl (hb C.2.2.1 hd.1) rfl rfl k) (by rw [hd.2] at g; exact g)
theorem wdadd (C : Cur p l e s m meth c Z bc ml own nm rt) (X : Stand p l e R s m args below meth c T locs cells slots) {x y : UInt64} (hd : Dec bc pc (.dadd) 1 pc') {v : UInt64} (hv : FP.dadd x y = v) (hn : Jvm.Free.Fl.NoNaN64 v) (g : Go p e below s Q kC kS T (mkF m pc' Ls (.double v :: S))) : Go p e below s Q kC kS T (mkF m pc Ls (.double y :: .double x :: S)) :=
  Go.step (fun _ k => XS.daddS X.here C.1 rfl (hb C.2.2.1 hd.1) rfl (by rw [hv]; exact hn) hv k) (by rw [hd.2] at g; exact g)
theorem wdsub (C : Cur p l e s m meth c Z bc ml own nm rt) (X : Stand p l e R s m args below meth c T locs cells slots) {x y : UInt64} (hd : Dec bc pc (.dsub) 1 pc') {v : UInt64} (hv : FP.dsub x y = v) (hn : Jvm.Free.Fl.NoNaN64 v) (g : Go p e below s Q kC kS T (mkF m pc' Ls (.double v :: S))) : Go p e below s Q kC kS T (mkF m pc Ls (.double y :: .double x :: S)) :=
  Go.step (fun _ k => XS.dsubS X.here C.1 rfl (hb C.2.2.1 hd.1) rfl (by rw [hv]; exact hn) hv k) (by rw [hd.2] at g; exact g)
theorem wdmul (C : Cur p l e s m meth c Z bc ml own nm rt) (X : Stand p l e R s m args below meth c T locs cells slots) {x y : UInt64} (hd : Dec bc pc (.dmul) 1 pc') {v : UInt64} (hv : FP.dmul x y = v) (hn : Jvm.Free.Fl.NoNaN64 v) (g : Go p e below s Q kC kS T (mkF m pc' Ls (.double v :: S))) : Go p e below s Q kC kS T (mkF m pc Ls (.double y :: .double x :: S)) :=
  Go.step (fun _ k => XS.dmulS X.here C.1 rfl (hb C.2.2.1 hd.1) rfl (by rw [hv]; exact hn) hv k) (by rw [hd.2] at g; exact g)
theorem wddiv (C : Cur p l e s m meth c Z bc ml own nm rt) (X : Stand p l e R s m args below meth c T locs cells slots) {x y : UInt64} (hd : Dec bc pc (.ddiv) 1 pc') {v : UInt64} (hv : FP.ddiv x y = v) (hn : Jvm.Free.Fl.NoNaN64 v) (g : Go p e below s Q kC kS T (mkF m pc' Ls (.double v :: S))) : Go p e below s Q kC kS T (mkF m pc Ls (.double y :: .double x :: S)) :=
  Go.step (fun _ k => XS.ddivS X.here C.1 rfl (hb C.2.2.1 hd.1) rfl (by rw [hv]; exact hn) hv k) (by rw [hd.2] at g; exact g)
theorem wdcmp (C : Cur p l e s m meth c Z bc ml own nm rt) (X : Stand p l e R s m args below meth c T locs cells slots) {o : CmpOp} {x y : UInt64} (hd : Dec bc pc (.dcmp o) 1 pc') {v : Int32} (hv : cmpValue (FP.dcmp x y) o = v) (g : Go p e below s Q kC kS T (mkF m pc' Ls (.int v :: S))) : Go p e below s Q kC kS T (mkF m pc Ls (.double y :: .double x :: S)) :=
  Go.step (fun _ k => XS.dcmpS X.here C.1 rfl (hb C.2.2.1 hd.1) rfl hv k) (by rw [hd.2] at g; exact g)
theorem wlcmp (C : Cur p l e s m meth c Z bc ml own nm rt) (X : Stand p l e R s m args below meth c T locs cells slots) {x y : Int64} (hd : Dec bc pc (.lcmp) 1 pc') (g : Go p e below s Q kC kS T (mkF m pc' Ls (.int (lcmpW x y) :: S))) : Go p e below s Q kC kS T (mkF m pc Ls (.long y :: .long x :: S)) :=
  Go.step (fun _ k => XS.lcmp X.here C.1 rfl (hb C.2.2.1 hd.1) rfl k) (by rw [hd.2] at g; exact g)
theorem wdup (C : Cur p l e s m meth c Z bc ml own nm rt) (X : Stand p l e R s m args below meth c T locs cells slots) {v : Value} (hd : Dec bc pc (.dup) 1 pc') (hc : v.category = 1) (g : Go p e below s Q kC kS T (mkF m pc' Ls (v :: v :: S))) : Go p e below s Q kC kS T (mkF m pc Ls (v :: S)) :=
  Go.step (fun _ k => XS.dup X.here C.1 rfl (hb C.2.2.1 hd.1) rfl hc k) (by rw [hd.2] at g; exact g)
theorem wdupX1 (C : Cur p l e s m meth c Z bc ml own nm rt) (X : Stand p l e R s m args below meth c T locs cells slots) {v u : Value} (hd : Dec bc pc (.dup_x1) 1 pc') (hc : v.category = 1) (hc' : u.category = 1) (g : Go p e below s Q kC kS T (mkF m pc' Ls (v :: u :: v :: S))) : Go p e below s Q kC kS T (mkF m pc Ls (v :: u :: S)) :=
  Go.step (fun _ k => XS.dupX1 X.here C.1 rfl (hb C.2.2.1 hd.1) rfl hc hc' k) (by rw [hd.2] at g; exact g)
theorem wdup2 (C : Cur p l e s m meth c Z bc ml own nm rt) (X : Stand p l e R s m args below meth c T locs cells slots) {v u : Value} (hd : Dec bc pc (.dup2) 1 pc') (hc : v.category = 1) (hc' : u.category = 1) (g : Go p e below s Q kC kS T (mkF m pc' Ls (v :: u :: v :: u :: S))) : Go p e below s Q kC kS T (mkF m pc Ls (v :: u :: S)) :=
  Go.step (fun _ k => Jvm.Free.XT.dup2 X.here C.1 rfl (hb C.2.2.1 hd.1) rfl hc hc' k) (by rw [hd.2] at g; exact g)
theorem wpop (C : Cur p l e s m meth c Z bc ml own nm rt) (X : Stand p l e R s m args below meth c T locs cells slots) {v : Value} (hd : Dec bc pc (.pop) 1 pc') (hc : v.category = 1) (g : Go p e below s Q kC kS T (mkF m pc' Ls S)) : Go p e below s Q kC kS T (mkF m pc Ls (v :: S)) :=
  Go.step (fun _ k => XS.pop X.here C.1 rfl (hb C.2.2.1 hd.1) rfl hc k) (by rw [hd.2] at g; exact g)
theorem wiinc (C : Cur p l e s m meth c Z bc ml own nm rt) (X : Stand p l e R s m args below meth c T locs cells slots) {k : Nat} {cst : Int} {x : Int32} (hd : Dec bc pc (.iinc k cst) 3 pc') (z : Int32) (hz : x + Int32.ofInt cst = z) (hl : Ls[k]? = some (.val (.int x))) (l' : Array Slot) (hl' : storeLocals Ls k (.int z) = some l') (g : Go p e below s Q kC kS T (mkF m pc' l' S)) : Go p e below s Q kC kS T (mkF m pc Ls S) :=
  Go.step (fun _ k => XS.iinc X.here C.1 rfl (hb C.2.2.1 hd.1) hl (by rw [hz]; exact hl') k) (by rw [hd.2] at g; exact g)
theorem wgoto (C : Cur p l e s m meth c Z bc ml own nm rt) (X : Stand p l e R s m args below meth c T locs cells slots) {o : Int} {tgt nxt : Nat} (hd : DecJ bc pc (.goto o) o tgt nxt) (g : Go p e below s Q kC kS T (mkF m tgt Ls S)) : Go p e below s Q kC kS T (mkF m pc Ls S) :=
  Go.step (fun _ k => XS.goto X.here C.1 rfl (pc0 := pc) (pc' := tgt) rfl (hb C.2.2.1 hd.1) hd.2.1 hd.2.2.1 k) g
theorem wicmp_lt (C : Cur p l e s m meth c Z bc ml own nm rt) (X : Stand p l e R s m args below meth c T locs cells slots) {x y : Int32} {o : Int} {tgt nxt : Nat} (hd : DecJ bc pc (.if_icmp .lt o) o tgt nxt) (hp : x < y → Go p e below s Q kC kS T (mkF m tgt Ls S)) (hn : ¬ x < y → Go p e below s Q kC kS T (mkF m nxt Ls S)) : Go p e below s Q kC kS T (mkF m pc Ls (.int y :: .int x :: S)) := by
  by_cases h : x < y
  · have g := hp h
    exact Go.step (fun _ k => XS.icmpYes X.here C.1 rfl (pc0 := pc) (pc' := tgt) rfl (hb C.2.2.1 hd.1) rfl (tlt h).1 hd.2.1 hd.2.2.1 k) g
  · have g := hn h
    rw [hd.2.2.2] at g; exact Go.step (fun _ k => XS.icmpNo X.here C.1 rfl (hb C.2.2.1 hd.1) rfl (flt h).1 k) g
theorem wif_lt (C : Cur p l e s m meth c Z bc ml own nm rt) (X : Stand p l e R s m args below meth c T locs cells slots) {x : Int32} {o : Int} {tgt nxt : Nat} (hd : DecJ bc pc (.ifCond .lt o) o tgt nxt) (hp : x < (0 : Int32) → Go p e below s Q kC kS T (mkF m tgt Ls S)) (hn : ¬ x < (0 : Int32) → Go p e below s Q kC kS T (mkF m nxt Ls S)) : Go p e below s Q kC kS T (mkF m pc Ls (.int x :: S)) := by
  by_cases h : x < (0 : Int32)
  · have g := hp h
    exact Go.step (fun _ k => XS.ifYes X.here C.1 rfl (pc0 := pc) (pc' := tgt) rfl (hb C.2.2.1 hd.1) rfl ((if0 _ _).trans (tlt h).1) hd.2.1 hd.2.2.1 k) g
  · have g := hn h
    rw [hd.2.2.2] at g; exact Go.step (fun _ k => XS.ifNo X.here C.1 rfl (hb C.2.2.1 hd.1) rfl ((if0 _ _).trans (flt h).1) k) g
theorem wicmp_ge (C : Cur p l e s m meth c Z bc ml own nm rt) (X : Stand p l e R s m args below meth c T locs cells slots) {x y : Int32} {o : Int} {tgt nxt : Nat} (hd : DecJ bc pc (.if_icmp .ge o) o tgt nxt) (hp : x < y → Go p e below s Q kC kS T (mkF m nxt Ls S)) (hn : ¬ x < y → Go p e below s Q kC kS T (mkF m tgt Ls S)) : Go p e below s Q kC kS T (mkF m pc Ls (.int y :: .int x :: S)) := by
  by_cases h : x < y
  · have g := hp h
    rw [hd.2.2.2] at g; exact Go.step (fun _ k => XS.icmpNo X.here C.1 rfl (hb C.2.2.1 hd.1) rfl (tlt h).2.1 k) g
  · have g := hn h
    exact Go.step (fun _ k => XS.icmpYes X.here C.1 rfl (pc0 := pc) (pc' := tgt) rfl (hb C.2.2.1 hd.1) rfl (flt h).2.1 hd.2.1 hd.2.2.1 k) g
theorem wif_ge (C : Cur p l e s m meth c Z bc ml own nm rt) (X : Stand p l e R s m args below meth c T locs cells slots) {x : Int32} {o : Int} {tgt nxt : Nat} (hd : DecJ bc pc (.ifCond .ge o) o tgt nxt) (hp : x < (0 : Int32) → Go p e below s Q kC kS T (mkF m nxt Ls S)) (hn : ¬ x < (0 : Int32) → Go p e below s Q kC kS T (mkF m tgt Ls S)) : Go p e below s Q kC kS T (mkF m pc Ls (.int x :: S)) := by
  by_cases h : x < (0 : Int32)
  · have g := hp h
    rw [hd.2.2.2] at g; exact Go.step (fun _ k => XS.ifNo X.here C.1 rfl (hb C.2.2.1 hd.1) rfl ((if0 _ _).trans (tlt h).2.1) k) g
  · have g := hn h
    exact Go.step (fun _ k => XS.ifYes X.here C.1 rfl (pc0 := pc) (pc' := tgt) rfl (hb C.2.2.1 hd.1) rfl ((if0 _ _).trans (flt h).2.1) hd.2.1 hd.2.2.1 k) g
theorem wicmp_gt (C : Cur p l e s m meth c Z bc ml own nm rt) (X : Stand p l e R s m args below meth c T locs cells slots) {x y : Int32} {o : Int} {tgt nxt : Nat} (hd : DecJ bc pc (.if_icmp .gt o) o tgt nxt) (hp : y < x → Go p e below s Q kC kS T (mkF m tgt Ls S)) (hn : ¬ y < x → Go p e below s Q kC kS T (mkF m nxt Ls S)) : Go p e below s Q kC kS T (mkF m pc Ls (.int y :: .int x :: S)) := by
  by_cases h : y < x
  · have g := hp h
    exact Go.step (fun _ k => XS.icmpYes X.here C.1 rfl (pc0 := pc) (pc' := tgt) rfl (hb C.2.2.1 hd.1) rfl (tlt h).2.2.1 hd.2.1 hd.2.2.1 k) g
  · have g := hn h
    rw [hd.2.2.2] at g; exact Go.step (fun _ k => XS.icmpNo X.here C.1 rfl (hb C.2.2.1 hd.1) rfl (flt h).2.2.1 k) g
theorem wif_gt (C : Cur p l e s m meth c Z bc ml own nm rt) (X : Stand p l e R s m args below meth c T locs cells slots) {x : Int32} {o : Int} {tgt nxt : Nat} (hd : DecJ bc pc (.ifCond .gt o) o tgt nxt) (hp : (0 : Int32) < x → Go p e below s Q kC kS T (mkF m tgt Ls S)) (hn : ¬ (0 : Int32) < x → Go p e below s Q kC kS T (mkF m nxt Ls S)) : Go p e below s Q kC kS T (mkF m pc Ls (.int x :: S)) := by
  by_cases h : (0 : Int32) < x
  · have g := hp h
    exact Go.step (fun _ k => XS.ifYes X.here C.1 rfl (pc0 := pc) (pc' := tgt) rfl (hb C.2.2.1 hd.1) rfl ((if0 _ _).trans (tlt h).2.2.1) hd.2.1 hd.2.2.1 k) g
  · have g := hn h
    rw [hd.2.2.2] at g; exact Go.step (fun _ k => XS.ifNo X.here C.1 rfl (hb C.2.2.1 hd.1) rfl ((if0 _ _).trans (flt h).2.2.1) k) g
theorem wicmp_le (C : Cur p l e s m meth c Z bc ml own nm rt) (X : Stand p l e R s m args below meth c T locs cells slots) {x y : Int32} {o : Int} {tgt nxt : Nat} (hd : DecJ bc pc (.if_icmp .le o) o tgt nxt) (hp : y < x → Go p e below s Q kC kS T (mkF m nxt Ls S)) (hn : ¬ y < x → Go p e below s Q kC kS T (mkF m tgt Ls S)) : Go p e below s Q kC kS T (mkF m pc Ls (.int y :: .int x :: S)) := by
  by_cases h : y < x
  · have g := hp h
    rw [hd.2.2.2] at g; exact Go.step (fun _ k => XS.icmpNo X.here C.1 rfl (hb C.2.2.1 hd.1) rfl (tlt h).2.2.2 k) g
  · have g := hn h
    exact Go.step (fun _ k => XS.icmpYes X.here C.1 rfl (pc0 := pc) (pc' := tgt) rfl (hb C.2.2.1 hd.1) rfl (flt h).2.2.2 hd.2.1 hd.2.2.1 k) g
theorem wif_le (C : Cur p l e s m meth c Z bc ml own nm rt) (X : Stand p l e R s m args below meth c T locs cells slots) {x : Int32} {o : Int} {tgt nxt : Nat} (hd : DecJ bc pc (.ifCond .le o) o tgt nxt) (hp : (0 : Int32) < x → Go p e below s Q kC kS T (mkF m nxt Ls S)) (hn : ¬ (0 : Int32) < x → Go p e below s Q kC kS T (mkF m tgt Ls S)) : Go p e below s Q kC kS T (mkF m pc Ls (.int x :: S)) := by
  by_cases h : (0 : Int32) < x
  · have g := hp h
    rw [hd.2.2.2] at g; exact Go.step (fun _ k => XS.ifNo X.here C.1 rfl (hb C.2.2.1 hd.1) rfl ((if0 _ _).trans (tlt h).2.2.2) k) g
  · have g := hn h
    exact Go.step (fun _ k => XS.ifYes X.here C.1 rfl (pc0 := pc) (pc' := tgt) rfl (hb C.2.2.1 hd.1) rfl ((if0 _ _).trans (flt h).2.2.2) hd.2.1 hd.2.2.1 k) g
theorem wicmp_eq (C : Cur p l e s m meth c Z bc ml own nm rt) (X : Stand p l e R s m args below meth c T locs cells slots) {x y : Int32} {o : Int} {tgt nxt : Nat} (hd : DecJ bc pc (.if_icmp .eq o) o tgt nxt) (hp : x = y → Go p e below s Q kC kS T (mkF m tgt Ls S)) (hn : ¬ x = y → Go p e below s Q kC kS T (mkF m nxt Ls S)) : Go p e below s Q kC kS T (mkF m pc Ls (.int y :: .int x :: S)) := by
  by_cases h : x = y
  · have g := hp h
    exact Go.step (fun _ k => XS.icmpYes X.here C.1 rfl (pc0 := pc) (pc' := tgt) rfl (hb C.2.2.1 hd.1) rfl (teq h).1 hd.2.1 hd.2.2.1 k) g
  · have g := hn h
    rw [hd.2.2.2] at g; exact Go.step (fun _ k => XS.icmpNo X.here C.1 rfl (hb C.2.2.1 hd.1) rfl (feq h).1 k) g
theorem wif_eq (C : Cur p l e s m meth c Z bc ml own nm rt) (X : Stand p l e R s m args below meth c T locs cells slots) {x : Int32} {o : Int} {tgt nxt : Nat} (hd : DecJ bc pc (.ifCond .eq o) o tgt nxt) (hp : x = (0 : Int32) → Go p e below s Q kC kS T (mkF m tgt Ls S)) (hn : ¬ x = (0 : Int32) → Go p e below s Q kC kS T (mkF m nxt Ls S)) : Go p e below s Q kC kS T (mkF m pc Ls (.int x :: S)) := by
  by_cases h : x = (0 : Int32)
  · have g := hp h
    exact Go.step (fun _ k => XS.ifYes X.here C.1 rfl (pc0 := pc) (pc' := tgt) rfl (hb C.2.2.1 hd.1) rfl ((if0 _ _).trans (teq h).1) hd.2.1 hd.2.2.1 k) g
  · have g := hn h
    rw [hd.2.2.2] at g; exact Go.step (fun _ k => XS.ifNo X.here C.1 rfl (hb C.2.2.1 hd.1) rfl ((if0 _ _).trans (feq h).1) k) g
theorem wicmp_ne (C : Cur p l e s m meth c Z bc ml own nm rt) (X : Stand p l e R s m args below meth c T locs cells slots) {x y : Int32} {o : Int} {tgt nxt : Nat} (hd : DecJ bc pc (.if_icmp .ne o) o tgt nxt) (hp : x = y → Go p e below s Q kC kS T (mkF m nxt Ls S)) (hn : ¬ x = y → Go p e below s Q kC kS T (mkF m tgt Ls S)) : Go p e below s Q kC kS T (mkF m pc Ls (.int y :: .int x :: S)) := by
  by_cases h : x = y
  · have g := hp h
    rw [hd.2.2.2] at g; exact Go.step (fun _ k => XS.icmpNo X.here C.1 rfl (hb C.2.2.1 hd.1) rfl (teq h).2 k) g
  · have g := hn h
    exact Go.step (fun _ k => XS.icmpYes X.here C.1 rfl (pc0 := pc) (pc' := tgt) rfl (hb C.2.2.1 hd.1) rfl (feq h).2 hd.2.1 hd.2.2.1 k) g
theorem wif_ne (C : Cur p l e s m meth c Z bc ml own nm rt) (X : Stand p l e R s m args below meth c T locs cells slots) {x : Int32} {o : Int} {tgt nxt : Nat} (hd : DecJ bc pc (.ifCond .ne o) o tgt nxt) (hp : x = (0 : Int32) → Go p e below s Q kC kS T (mkF m nxt Ls S)) (hn : ¬ x = (0 : Int32) → Go p e below s Q kC kS T (mkF m tgt Ls S)) : Go p e below s Q kC kS T (mkF m pc Ls (.int x :: S)) := by
  by_cases h : x = (0 : Int32)
  · have g := hp h
    rw [hd.2.2.2] at g; exact Go.step (fun _ k => XS.ifNo X.here C.1 rfl (hb C.2.2.1 hd.1) rfl ((if0 _ _).trans (teq h).2) k) g
  · have g := hn h
    exact Go.step (fun _ k => XS.ifYes X.here C.1 rfl (pc0 := pc) (pc' := tgt) rfl (hb C.2.2.1 hd.1) rfl ((if0 _ _).trans (feq h).2) hd.2.1 hd.2.2.1 k) g
theorem wacmp_eq (C : Cur p l e s m meth c Z bc ml own nm rt) (X : Stand p l e R s m args below meth c T locs cells slots) {x y : Value} (h1 : x.isRef = true) (h2 : y.isRef = true) {o : Int} {tgt nxt : Nat} (hd : DecJ bc pc (.if_acmp .eq o) o tgt nxt) (hp : x = y → Go p e below s Q kC kS T (mkF m tgt Ls S)) (hn : ¬ x = y → Go p e below s Q kC kS T (mkF m nxt Ls S)) : Go p e below s Q kC kS T (mkF m pc Ls (y :: x :: S)) := by
  by_cases h : x = y
  · have g := hp h
    exact Go.step (fun _ k => Jvm.RoadKit.acmp X C.1 rfl h1 h2 (pc0 := pc) (pc' := tgt) (same := true) rfl (hb C.2.2.1 hd.1) rfl (decide_eq_true h) hd.2.1 (by rw [hd.2.2.1]; rfl) k) g
  · have g := hn h
    exact Go.step (fun _ k => Jvm.RoadKit.acmp X C.1 rfl h1 h2 (pc0 := pc) (pc' := nxt) (same := false) rfl (hb C.2.2.1 hd.1) rfl (decide_eq_false h) hd.2.1 (by rw [hd.2.2.2]; rfl) k) g
theorem wacmp_ne (C : Cur p l e s m meth c Z bc ml own nm rt) (X : Stand p l e R s m args below meth c T locs cells slots) {x y : Value} (h1 : x.isRef = true) (h2 : y.isRef = true) {o : Int} {tgt nxt : Nat} (hd : DecJ bc pc (.if_acmp .ne o) o tgt nxt) (hp : x = y → Go p e below s Q kC kS T (mkF m nxt Ls S)) (hn : ¬ x = y → Go p e below s Q kC kS T (mkF m tgt Ls S)) : Go p e below s Q kC kS T (mkF m pc Ls (y :: x :: S)) := by
  by_cases h : x = y
  · have g := hp h
    exact Go.step (fun _ k => Jvm.RoadKit.acmp X C.1 rfl h1 h2 (pc0 := pc) (pc' := nxt) (same := true) rfl (hb C.2.2.1 hd.1) rfl (decide_eq_true h) hd.2.1 (by rw [hd.2.2.2]; rfl) k) g
  · have g := hn h
    exact Go.step (fun _ k => Jvm.RoadKit.acmp X C.1 rfl h1 h2 (pc0 := pc) (pc' := tgt) (same := false) rfl (hb C.2.2.1 hd.1) rfl (decide_eq_false h) hd.2.1 (by rw [hd.2.2.1]; rfl) k) g
theorem wifnullY (C : Cur p l e s m meth c Z bc ml own nm rt) (X : Stand p l e R s m args below meth c T locs cells slots) {b : Addr} {o : Int} {tgt nxt : Nat} (hd : DecJ bc pc (.ifnull o) o tgt nxt) (g : Go p e below s Q kC kS T (mkF m tgt Ls S)) : Go p e below s Q kC kS T (mkF m pc Ls (.null :: S)) :=
  Go.step (fun _ k => XS.ifnullYes X.here C.1 rfl (pc0 := pc) (pc' := tgt) rfl (hb C.2.2.1 hd.1) rfl hd.2.1 hd.2.2.1 k) g
theorem wifnullN (C : Cur p l e s m meth c Z bc ml own nm rt) (X : Stand p l e R s m args below meth c T locs cells slots) {b : Addr} {o : Int} {tgt nxt : Nat} (hd : DecJ bc pc (.ifnull o) o tgt nxt) (g : Go p e below s Q kC kS T (mkF m nxt Ls S)) : Go p e below s Q kC kS T (mkF m pc Ls (.ref b :: S)) := by
  rw [hd.2.2.2] at g
  exact Go.step (fun _ k => XS.ifnullNo X.here C.1 rfl (hb C.2.2.1 hd.1) rfl k) g
theorem wifnonnullY (C : Cur p l e s m meth c Z bc ml own nm rt) (X : Stand p l e R s m args below meth c T locs cells slots) {b : Addr} {o : Int} {tgt nxt : Nat} (hd : DecJ bc pc (.ifnonnull o) o tgt nxt) (g : Go p e below s Q kC kS T (mkF m tgt Ls S)) : Go p e below s Q kC kS T (mkF m pc Ls (.ref b :: S)) :=
  Go.step (fun _ k => XS.ifnonnullYes X.here C.1 rfl (pc0 := pc) (pc' := tgt) rfl (hb C.2.2.1 hd.1) rfl hd.2.1 hd.2.2.1 k) g
theorem wifnonnullN (C : Cur p l e s m meth c Z bc ml own nm rt) (X : Stand p l e R s m args below meth c T locs cells slots) {b : Addr} {o : Int} {tgt nxt : Nat} (hd : DecJ bc pc (.ifnonnull o) o tgt nxt) (g : Go p e below s Q kC kS T (mkF m nxt Ls S)) : Go p e below s Q kC kS T (mkF m pc Ls (.null :: S)) := by
  rw [hd.2.2.2] at g
  exact Go.step (fun _ k => XS.ifnonnullNo X.here C.1 rfl (hb C.2.2.1 hd.1) rfl k) g
theorem wret (C : Cur p l e s m meth c Z bc ml own nm rt) (X : Stand p l e R s m args below meth c T locs cells slots) (hd : Dec bc pc .return_ 1 pc') (hrt : rt = none) (hk : cells ≤ kC) (hn : slots ≤ kS) (q : Q none T.heap locs) : Go p e below s Q kC kS T (mkF m pc Ls []) := by
  subst hrt
  obtain ⟨fs, hr, hrun, hended, hW, hsame⟩ := X.leave (v := none) (fun _ => rfl) C.2.2.2.2.2.2.1
  exact ⟨_, _, X.returnOut C.1 C.2.2.2.2.2.1 (hb C.2.2.1 hd.1) hr, hrun, hended, none, _, rfl, q, ⟨_, rfl⟩, hW, hsame.mono hk hn⟩
theorem wretV (C : Cur p l e s m meth c Z bc ml own nm rt) (X : Stand p l e R s m args below meth c T locs cells slots) {w : Value} {t : FieldType} {i : Instr} (hd : Dec bc pc i 1 pc') (hrt : rt = some t) (hnw : narrow t w = w)
    (hi : (i = .ireturn ∧ (t = .int ∨ t = .boolean ∨ t = .byte ∨ t = .char ∨ t = .short) ∧ ∃ z, w = .int z) ∨ (i = .lreturn ∧ t = .long ∧ ∃ z, w = .long z) ∨ (i = .dreturn ∧ t = .double ∧ ∃ z, w = .double z) ∨ (i = .freturn ∧ t = .float ∧ ∃ z, w = .float z) ∨ (i = .areturn ∧ t.isReference = true ∧ w.isRef = true))
    (hk : cells ≤ kC) (hn : slots ≤ kS) (q : Q (some w) T.heap locs) : Go p e below s Q kC kS T (mkF m pc Ls (w :: S)) := by
  subst hrt
  obtain ⟨fs, hr, hrun, hended, hW, hsame⟩ := X.leave (v := some w) (fun h => by rw [C.2.2.2.2.2.1] at h; cases h) C.2.2.2.2.2.2.1
  exact ⟨_, _, retOut X C.1 C.2.2.2.2.2.1 hnw hi (hb C.2.2.1 hd.1) hr, hrun, hended, some w, _, rfl, q, ⟨_, rfl⟩, hW, hsame.mono hk hn⟩
theorem wiret (C : Cur p l e s m meth c Z bc ml own nm rt) (X : Stand p l e R s m args below meth c T locs cells slots) {z : Int32} (hd : Dec bc pc .ireturn 1 pc') (hrt : rt = some .int) (hk : cells ≤ kC) (hn : slots ≤ kS) (q : Q (some (.int z)) T.heap locs) : Go p e below s Q kC kS T (mkF m pc Ls (.int z :: S)) :=
  wretV C X hd hrt rfl (Or.inl ⟨rfl, Or.inl rfl, z, rfl⟩) hk hn q
theorem wiretN (C : Cur p l e s m meth c Z bc ml own nm rt) (X : Stand p l e R s m args below meth c T locs cells slots) {z : Int32} {t : FieldType} (ht : t = .boolean ∨ t = .byte ∨ t = .char ∨ t = .short) (hd : Dec bc pc .ireturn 1 pc') (hrt : rt = some t) (z' : Int32) (hz : nar t z = z') (hk : cells ≤ kC) (hn : slots ≤ kS) (q : Q (some (.int z')) T.heap locs) : Go p e below s Q kC kS T (mkF m pc Ls (.int z :: S)) := by
  subst hrt hz
  obtain ⟨fs, hr, hrun, hended, hW, hsame⟩ := X.leave (v := some (.int (nar t z))) (fun h => by rw [C.2.2.2.2.2.1] at h; cases h) C.2.2.2.2.2.2.1
  exact ⟨_, _, retN X C.1 (t := t) C.2.2.2.2.2.1 ht (hb C.2.2.1 hd.1) hr, hrun, hended, some _, _, rfl, q, ⟨_, rfl⟩, hW, hsame.mono hk hn⟩
theorem wlret (C : Cur p l e s m meth c Z bc ml own nm rt) (X : Stand p l e R s m args below meth c T locs cells slots) {z : Int64} (hd : Dec bc pc .lreturn 1 pc') (hrt : rt = some .long) (hk : cells ≤ kC) (hn : slots ≤ kS) (q : Q (some (.long z)) T.heap locs) : Go p e below s Q kC kS T (mkF m pc Ls (.long z :: S)) :=
  wretV C X hd hrt rfl (Or.inr (Or.inl ⟨rfl, rfl, z, rfl⟩)) hk hn q
theorem wdret (C : Cur p l e s m meth c Z bc ml own nm rt) (X : Stand p l e R s m args below meth c T locs cells slots) {z : UInt64} (hd : Dec bc pc .dreturn 1 pc') (hrt : rt = some .double) (hk : cells ≤ kC) (hn : slots ≤ kS) (q : Q (some (.double z)) T.heap locs) : Go p e below s Q kC kS T (mkF m pc Ls (.double z :: S)) :=
  wretV C X hd hrt rfl (Or.inr (Or.inr (Or.inl ⟨rfl, rfl, z, rfl⟩))) hk hn q
theorem waret (C : Cur p l e s m meth c Z bc ml own nm rt) (X : Stand p l e R s m args below meth c T locs cells slots) {w : Value} {t : FieldType} (hd : Dec bc pc .areturn 1 pc') (hrt : rt = some t) (ht : t.isReference = true) (hw : w.isRef = true) (hnw : narrow t w = w) (hk : cells ≤ kC) (hn : slots ≤ kS) (q : Q (some w) T.heap locs) : Go p e below s Q kC kS T (mkF m pc Ls (w :: S)) :=
  wretV C X hd hrt hnw (Or.inr (Or.inr (Or.inr (Or.inr ⟨rfl, ht, hw⟩)))) hk hn q
theorem wget (C : Cur p l e s m meth c Z bc ml own nm rt) (X : Stand p l e R s m args below meth c T locs cells slots) {R0 O n d host : String} {index : Nat} (w : (Jvm.Cond.fieldLink own index R0 n d).before a0 Z = true ∨ (Jvm.Cond.fieldLinkNest own index R0 n d host).before a0 Z = true) (via : Via Z R0 O n d) (eT : T.heap = h) {a : Addr} {v : Value} (F : Fld Z h a O n d v) (hd : Dec bc pc (.getfield index) 3 pc')
    (K : ∀ T' : State, Stand p l e R s m args below meth c T' locs cells slots → T'.heap = h → Go p e below s Q kC kS T' (mkF m pc' Ls (v :: S))) : Go p e below s Q kC kS T (mkF m pc Ls (.ref a :: S)) := by
  obtain ⟨T', X', e', st⟩ := getF X C.1 C.2.1 C.2.2.2.2.1 w via eT F (g := mkF m pc Ls (.ref a :: S)) rfl rfl (hb C.2.2.1 hd.1)
  have k := K T' X' e'
  rw [hd.2] at k
  exact Go.step st k
theorem wgets (C : Cur p l e s m meth c Z bc ml own nm rt) (X : Stand p l e R s m args below meth c T locs cells slots) {R0 O n d host : String} {index : Nat} (w : (Jvm.Cond.fieldLink own index R0 n d).before a0 Z = true ∨ (Jvm.Cond.fieldLinkNest own index R0 n d host).before a0 Z = true) (via : Via Z R0 O n d) (eT : T.heap = h) {v : Value} (F : Sta Z h O n d v) (hd : Dec bc pc (.getstatic index) 3 pc')
    (K : ∀ T' : State, Stand p l e R s m args below meth c T' locs cells slots → T'.heap = h → Go p e below s Q kC kS T' (mkF m pc' Ls (v :: S))) : Go p e below s Q kC kS T (mkF m pc Ls S) := by
  obtain ⟨T', X', e', st⟩ := getS2 X C.1 C.2.1 C.2.2.2.2.1 w via eT F (g := mkF m pc Ls S) rfl (hb C.2.2.1 hd.1)
  have k := K T' X' e'
  rw [hd.2] at k
  exact Go.step st k
theorem wput (C : Cur p l e s m meth c Z bc ml own nm rt) (X : Stand p l e R s m args below meth c T locs cells slots) {R0 O n d host C0 : String} {index kk : Nat} {ty : FieldType} (w : (Jvm.Cond.fieldLink own index R0 n d).before a0 Z = true ∨ (Jvm.Cond.fieldLinkNest own index R0 n d host).before a0 Z = true) (via : Via Z R0 O n d) (eT : T.heap = h) {a : Addr} {v old : Value} (F : Fld Z h a O n d old) (E : Exa Z h a C0)
    (L : (Jvm.Cond.lays C0 O n d).before a0 Z = true ∨ ((Jvm.Cond.laysFinal C0 O n d).before a0 Z = true ∧ own = O ∧ nm = "<init>")) (wi : (Jvm.Cond.instantiable C0 kk).before a0 Z = true) (hty : parseFieldDescriptor d = some ty) (hn : narrow ty v = v) (hf : fits ty v = true) (hd : Dec bc pc (.putfield index) 3 pc')
    (K : ∀ (T' : State) (h' : Heap), Stand p l e R s m args below meth c T' (locs ++ [⟨a, Jvm.RoadKit.slotOf Z O n d⟩]) cells slots → T'.heap = h' → Wr h h' a (Jvm.RoadKit.slotOf Z O n d) v → Go p e below s Q kC kS T' (mkF m pc' Ls S)) : Go p e below s Q kC kS T (mkF m pc Ls (v :: .ref a :: S)) := by
  obtain ⟨T', h', X', e', W, st⟩ := putF X C.1 C.2.1 C.2.2.2.2.1 w via eT F E (L.imp id fun q => ⟨q.1, q.2.1, C.2.2.2.2.2.2.2.trans q.2.2⟩) wi hty hn hf (g := mkF m pc Ls (v :: .ref a :: S)) rfl rfl (hb C.2.2.1 hd.1)
  have k := K T' h' X' e' W
  rw [hd.2] at k
  exact Go.step st k
theorem wputN (C : Cur p l e s m meth c Z bc ml own nm rt) (X : Stand p l e R s m args below meth c T locs cells slots) {R0 O n d C0 : String} {index kk : Nat} {ty : FieldType} (w : (Jvm.Cond.fieldLink own index R0 n d).before a0 Z = true) (via : Via Z R0 O n d) (eT : T.heap = h) {a : Addr} {v old : Value} (F : Fld Z h a O n d old) (E : Exa Z h a C0)
    (L : (Jvm.Cond.lays C0 O n d).before a0 Z = true ∨ ((Jvm.Cond.laysFinal C0 O n d).before a0 Z = true ∧ own = O ∧ nm = "<init>")) (wi : (Jvm.Cond.instantiable C0 kk).before a0 Z = true) (hty : parseFieldDescriptor d = some ty) (v' : Value) (hn : narrow ty v = v') (hf : fits ty v' = true) (hd : Dec bc pc (.putfield index) 3 pc')
    (K : ∀ (T' : State) (h' : Heap), Stand p l e R s m args below meth c T' (locs ++ [⟨a, Jvm.RoadKit.slotOf Z O n d⟩]) cells slots → T'.heap = h' → Wr h h' a (Jvm.RoadKit.slotOf Z O n d) v' → Go p e below s Q kC kS T' (mkF m pc' Ls S)) : Go p e below s Q kC kS T (mkF m pc Ls (v :: .ref a :: S)) := by
  obtain ⟨T', h', X', e', W, st⟩ := putFN X C.1 C.2.1 C.2.2.2.2.1 w via eT F E (L.imp id fun q => ⟨q.1, q.2.1, C.2.2.2.2.2.2.2.trans q.2.2⟩) wi hty hn hf (g := mkF m pc Ls (v :: .ref a :: S)) rfl rfl (hb C.2.2.1 hd.1)
  have k := K T' h' X' e' W
  rw [hd.2] at k
  exact Go.step st k
theorem wnew (C : Cur p l e s m meth c Z bc ml own nm rt) (X : Stand p l e R s m args below meth c T locs cells slots) {C0 : String} {index n : Nat} (w : (Jvm.Cond.classLink own index C0).before a0 Z = true) (wi : (Jvm.Cond.instantiable C0 n).before a0 Z = true) (wz : (Jvm.Cond.initialized C0).before a0 Z = true) (eT : T.heap = h) (hd : Dec bc pc (.new index) 3 pc') (hc : cells + 1 ≤ R.cells) (hl : slots + n ≤ R.slots)
    (K : ∀ (T' : State) (h' : Heap) (a : Addr), a = h.size → Stand p l e R s m args below meth c T' locs (cells + 1) (slots + n) → T'.heap = h' → Ext h h' → Exa Z h' a C0 → (∀ {O nm d : String} {ty : FieldType}, Laid Z a0 C0 O nm d → parseFieldDescriptor d = some ty → Fld Z h' a O nm d (defaultValue ty)) → Go p e below s Q kC kS T' (mkF m pc' Ls (.ref a :: S))) : Go p e below s Q kC kS T (mkF m pc Ls S) := by
  obtain ⟨T', h', X', e', E, A, D, -, st⟩ := newO X C.1 C.2.1 C.2.2.2.2.1 w wi wz eT (g := mkF m pc Ls S) rfl (hb C.2.2.1 hd.1) hc hl
  have k := K T' h' _ rfl X' e' E A D
  rw [hd.2] at k
  exact Go.step st k
theorem wnewarr (C : Cur p l e s m meth c Z bc ml own nm rt) (X : Stand p l e R s m args below meth c T locs cells slots) {aty : ArrayType} (w : (Jvm.Cond.arrayClass (newarray.typeOf aty)).before a0 Z = true) (eT : T.heap = h) {n : Int32} (hd : Dec bc pc (.newarray aty) 2 pc') (hn : ¬ n < 0) {cap : Nat} (hcap : n.toNatClampNeg ≤ cap) (hb' : cap * 8 ≤ 536870912) (hc : cells + 1 ≤ R.cells) (hl : slots + cap ≤ R.slots)
    (K : ∀ (T' : State) (h' : Heap) (a : Addr) (k : ClassId), a = h.size → Stand p l e R s m args below meth c T' locs (cells + 1) (slots + cap) → T'.heap = h' → Ext h h' → Arv Z h' a k (newarray.typeOf aty) n [] (defaultValue (newarray.typeOf aty)) → Go p e below s Q kC kS T' (mkF m pc' Ls (.ref a :: S))) : Go p e below s Q kC kS T (mkF m pc Ls (.int n :: S)) := by
  obtain ⟨T', h', kA, X', e', E, A, st⟩ := newP X C.1 C.2.1 w eT (g := mkF m pc Ls (.int n :: S)) rfl (hb C.2.2.1 hd.1) rfl hn hcap hb' hc hl
  have k := K T' h' _ kA rfl X' e' E (Arv.new A hn)
  rw [hd.2] at k
  exact Go.step st k
theorem wiaload (C : Cur p l e s m meth c Z bc ml own nm rt) (X : Stand p l e R s m args below meth c T locs cells slots) (eT : T.heap = h) {a : Addr} {ka : ClassId} {n j : Int32} {vs : List Value} {dv : Value} (V : Arv Z h a ka .int n vs dv) (hd : Dec bc pc .iaload 1 pc') (hj : ¬ j < 0 ∧ j < n) {i : Nat} (hi : j.toNatClampNeg = i) {v : Int32} (hv : vs.getD i dv = .int v) (g : Go p e below s Q kC kS T (mkF m pc' Ls (.int v :: S))) : Go p e below s Q kC kS T (mkF m pc Ls (.int j :: .ref a :: S)) := by
  obtain ⟨cl, A, -, hS, -, hH, -⟩ := V
  have hin := inb_of hS hj
  rw [hd.2] at g
  exact Go.step (fun t k => X.iaload C.1 (by rw [eT]; exact A.1) (State.isArrayOf_alike C.2.1.alike A.2.1) A.2.2 hin (hH.at hin (by rw [hi]; exact hv)) (g := mkF m pc Ls (.int j :: .ref a :: S)) rfl rfl (hb C.2.2.1 hd.1) t k) g
theorem wlaload (C : Cur p l e s m meth c Z bc ml own nm rt) (X : Stand p l e R s m args below meth c T locs cells slots) (eT : T.heap = h) {a : Addr} {ka : ClassId} {n j : Int32} {vs : List Value} {dv : Value} (V : Arv Z h a ka .long n vs dv) (hd : Dec bc pc .laload 1 pc') (hj : ¬ j < 0 ∧ j < n) {i : Nat} (hi : j.toNatClampNeg = i) {v : Int64} (hv : vs.getD i dv = .long v) (g : Go p e below s Q kC kS T (mkF m pc' Ls (.long v :: S))) : Go p e below s Q kC kS T (mkF m pc Ls (.int j :: .ref a :: S)) := by
  obtain ⟨cl, A, -, hS, -, hH, -⟩ := V
  have hin := inb_of hS hj
  rw [hd.2] at g
  exact Go.step (fun t k => X.laload C.1 (by rw [eT]; exact A.1) (State.isArrayOf_alike C.2.1.alike A.2.1) A.2.2 hin (hH.at hin (by rw [hi]; exact hv)) (g := mkF m pc Ls (.int j :: .ref a :: S)) rfl rfl (hb C.2.2.1 hd.1) t k) g
theorem wdaload (C : Cur p l e s m meth c Z bc ml own nm rt) (X : Stand p l e R s m args below meth c T locs cells slots) (eT : T.heap = h) {a : Addr} {ka : ClassId} {n j : Int32} {vs : List Value} {dv : Value} (V : Arv Z h a ka .double n vs dv) (hd : Dec bc pc .daload 1 pc') (hj : ¬ j < 0 ∧ j < n) {i : Nat} (hi : j.toNatClampNeg = i) {v : UInt64} (hv : vs.getD i dv = .double v) (g : Go p e below s Q kC kS T (mkF m pc' Ls (.double v :: S))) : Go p e below s Q kC kS T (mkF m pc Ls (.int j :: .ref a :: S)) := by
  obtain ⟨cl, A, -, hS, -, hH, -⟩ := V
  have hin := inb_of hS hj
  rw [hd.2] at g
  exact Go.step (fun t k => X.daload C.1 (by rw [eT]; exact A.1) (State.isArrayOf_alike C.2.1.alike A.2.1) A.2.2 hin (hH.at hin (by rw [hi]; exact hv)) (g := mkF m pc Ls (.int j :: .ref a :: S)) rfl rfl (hb C.2.2.1 hd.1) t k) g
theorem wcaload (C : Cur p l e s m meth c Z bc ml own nm rt) (X : Stand p l e R s m args below meth c T locs cells slots) (eT : T.heap = h) {a : Addr} {ka : ClassId} {n j : Int32} {vs : List Value} {dv : Value} (V : Arv Z h a ka .char n vs dv) (hd : Dec bc pc .caload 1 pc') (hj : ¬ j < 0 ∧ j < n) {i : Nat} (hi : j.toNatClampNeg = i) {v : Int32} (hv : vs.getD i dv = .int v) (g : Go p e below s Q kC kS T (mkF m pc' Ls (.int v :: S))) : Go p e below s Q kC kS T (mkF m pc Ls (.int j :: .ref a :: S)) := by
  obtain ⟨cl, A, -, hS, -, hH, -⟩ := V
  have hin := inb_of hS hj
  rw [hd.2] at g
  exact Go.step (fun t k => X.caload C.1 (by rw [eT]; exact A.1) (State.isArrayOf_alike C.2.1.alike A.2.1) A.2.2 hin (hH.at hin (by rw [hi]; exact hv)) (g := mkF m pc Ls (.int j :: .ref a :: S)) rfl rfl (hb C.2.2.1 hd.1) t k) g
theorem wbaloadB (C : Cur p l e s m meth c Z bc ml own nm rt) (X : Stand p l e R s m args below meth c T locs cells slots) (eT : T.heap = h) {a : Addr} {ka : ClassId} {n j : Int32} {vs : List Value} {dv : Value} (V : Arv Z h a ka .byte n vs dv) (hd : Dec bc pc .baload 1 pc') (hj : ¬ j < 0 ∧ j < n) {i : Nat} (hi : j.toNatClampNeg = i) {v : Int32} (hv : vs.getD i dv = .int v) (g : Go p e below s Q kC kS T (mkF m pc' Ls (.int v :: S))) : Go p e below s Q kC kS T (mkF m pc Ls (.int j :: .ref a :: S)) := by
  obtain ⟨cl, A, -, hS, -, hH, -⟩ := V
  have hin := inb_of hS hj
  rw [hd.2] at g
  exact Go.step (fun t k => X.baloadBytes C.1 (by rw [eT]; exact A.1) (State.isArrayOf_alike C.2.1.alike A.2.1) A.2.2 hin (hH.at hin (by rw [hi]; exact hv)) (g := mkF m pc Ls (.int j :: .ref a :: S)) rfl rfl (hb C.2.2.1 hd.1) t k) g
theorem wbaloadZ (C : Cur p l e s m meth c Z bc ml own nm rt) (X : Stand p l e R s m args below meth c T locs cells slots) (eT : T.heap = h) {a : Addr} {ka : ClassId} {n j : Int32} {vs : List Value} {dv : Value} (V : Arv Z h a ka .boolean n vs dv) (hd : Dec bc pc .baload 1 pc') (hj : ¬ j < 0 ∧ j < n) {i : Nat} (hi : j.toNatClampNeg = i) {v : Int32} (hv : vs.getD i dv = .int v) (g : Go p e below s Q kC kS T (mkF m pc' Ls (.int v :: S))) : Go p e below s Q kC kS T (mkF m pc Ls (.int j :: .ref a :: S)) := by
  obtain ⟨cl, A, -, hS, -, hH, -⟩ := V
  have hin := inb_of hS hj
  rw [hd.2] at g
  exact Go.step (fun t k => X.baloadBooleans C.1 (by rw [eT]; exact A.1) (State.isArrayOf_alike C.2.1.alike A.2.1) A.2.2 hin (hH.at hin (by rw [hi]; exact hv)) (g := mkF m pc Ls (.int j :: .ref a :: S)) rfl rfl (hb C.2.2.1 hd.1) t k) g
theorem waaload (C : Cur p l e s m meth c Z bc ml own nm rt) (X : Stand p l e R s m args below meth c T locs cells slots) (eT : T.heap = h) {a : Addr} {ka : ClassId} {ty : FieldType} {n j : Int32} {vs : List Value} {dv : Value} (V : Arv Z h a ka ty n vs dv) (hty : ty.isReference = true) (hd : Dec bc pc .aaload 1 pc') (hj : ¬ j < 0 ∧ j < n) {i : Nat} (hi : j.toNatClampNeg = i) {v : Value} (hv : vs.getD i dv = v) (g : Go p e below s Q kC kS T (mkF m pc' Ls (v :: S))) : Go p e below s Q kC kS T (mkF m pc Ls (.int j :: .ref a :: S)) := by
  obtain ⟨cl, A, -, hS, -, hH, -⟩ := V
  have hin := inb_of hS hj
  rw [hd.2] at g
  exact Go.step (fun t k => X.aaload C.1 (by rw [eT]; exact A.1) (State.isArrayOf_alike C.2.1.alike A.2.1) hty A.2.2 hin (hH.at hin (by rw [hi]; exact hv)) (g := mkF m pc Ls (.int j :: .ref a :: S)) rfl rfl (hb C.2.2.1 hd.1) t k) g
theorem walen (C : Cur p l e s m meth c Z bc ml own nm rt) (X : Stand p l e R s m args below meth c T locs cells slots) (eT : T.heap = h) {a : Addr} {ka : ClassId} {ty : FieldType} {n : Int32} {vs : List Value} {dv : Value} (V : Arv Z h a ka ty n vs dv) (hd : Dec bc pc .arraylength 1 pc') (g : Go p e below s Q kC kS T (mkF m pc' Ls (.int n :: S))) : Go p e below s Q kC kS T (mkF m pc Ls (.ref a :: S)) := by
  obtain ⟨cl, A, -, hS, hN, -, -⟩ := V
  rw [hd.2] at g
  exact Go.step (fun t k => X.arraylength C.1 (by rw [eT]; exact A.1) (State.isArrayOf_alike C.2.1.alike A.2.1) (g := mkF m pc Ls (.ref a :: S)) rfl rfl (hb C.2.2.1 hd.1) t (by rw [len_of hS hN]; exact k)) g
theorem wiastore (C : Cur p l e s m meth c Z bc ml own nm rt) (X : Stand p l e R s m args below meth c T locs cells slots) (eT : T.heap = h) {a : Addr} {ka : ClassId} {n j : Int32} {x : Int32} {vs : List Value} {dv : Value} (V : Arv Z h a ka .int n vs dv) (hd : Dec bc pc .iastore 1 pc') (hj : ¬ j < 0 ∧ j < n) (i : Nat) (hi : j.toNatClampNeg = i) (hlt : i < vs.length) (vs' : List Value) (hs : vs.set i (.int x) = vs')
    (K : ∀ (T' : State) (h' : Heap) (sl : Nat) (w : Value), Stand p l e R s m args below meth c T' (locs ++ [⟨a, sl⟩]) cells slots → T'.heap = h' → Wr h h' a sl w → Arv Z h' a ka .int n vs' dv → Go p e below s Q kC kS T' (mkF m pc' Ls S)) : Go p e below s Q kC kS T (mkF m pc Ls (.int x :: .int j :: .ref a :: S)) := by
  obtain ⟨cl, A, hk, hS, hN, hH, hG⟩ := V
  have hin := inb_of hS hj
  obtain ⟨T', h', X', e', W, st⟩ := stI X C.1 C.2.1 eT A hin (g := mkF m pc Ls (.int x :: .int j :: .ref a :: S)) rfl rfl (hb C.2.2.1 hd.1)
  have V' := Arv.set A hk hS hN hH hG rfl W i hi hlt
  subst hs
  have k := K T' h' _ _ X' e' W V'
  rw [hd.2] at k
  exact Go.step st k
theorem wlastore (C : Cur p l e s m meth c Z bc ml own nm rt) (X : Stand p l e R s m args below meth c T locs cells slots) (eT : T.heap = h) {a : Addr} {ka : ClassId} {n j : Int32} {x : Int64} {vs : List Value} {dv : Value} (V : Arv Z h a ka .long n vs dv) (hd : Dec bc pc .lastore 1 pc') (hj : ¬ j < 0 ∧ j < n) (i : Nat) (hi : j.toNatClampNeg = i) (hlt : i < vs.length) (vs' : List Value) (hs : vs.set i (.long x) = vs')
    (K : ∀ (T' : State) (h' : Heap) (sl : Nat) (w : Value), Stand p l e R s m args below meth c T' (locs ++ [⟨a, sl⟩]) cells slots → T'.heap = h' → Wr h h' a sl w → Arv Z h' a ka .long n vs' dv → Go p e below s Q kC kS T' (mkF m pc' Ls S)) : Go p e below s Q kC kS T (mkF m pc Ls (.long x :: .int j :: .ref a :: S)) := by
  obtain ⟨cl, A, hk, hS, hN, hH, hG⟩ := V
  have hin := inb_of hS hj
  obtain ⟨T', h', X', e', W, st⟩ := stJ X C.1 C.2.1 eT A hin (g := mkF m pc Ls (.long x :: .int j :: .ref a :: S)) rfl rfl (hb C.2.2.1 hd.1)
  have V' := Arv.set A hk hS hN hH hG rfl W i hi hlt
  subst hs
  have k := K T' h' _ _ X' e' W V'
  rw [hd.2] at k
  exact Go.step st k
theorem wdastore (C : Cur p l e s m meth c Z bc ml own nm rt) (X : Stand p l e R s m args below meth c T locs cells slots) (eT : T.heap = h) {a : Addr} {ka : ClassId} {n j : Int32} {x : UInt64} {vs : List Value} {dv : Value} (V : Arv Z h a ka .double n vs dv) (hd : Dec bc pc .dastore 1 pc') (hj : ¬ j < 0 ∧ j < n) (i : Nat) (hi : j.toNatClampNeg = i) (hlt : i < vs.length) (vs' : List Value) (hs : vs.set i (.double x) = vs')
    (K : ∀ (T' : State) (h' : Heap) (sl : Nat) (w : Value), Stand p l e R s m args below meth c T' (locs ++ [⟨a, sl⟩]) cells slots → T'.heap = h' → Wr h h' a sl w → Arv Z h' a ka .double n vs' dv → Go p e below s Q kC kS T' (mkF m pc' Ls S)) : Go p e below s Q kC kS T (mkF m pc Ls (.double x :: .int j :: .ref a :: S)) := by
  obtain ⟨cl, A, hk, hS, hN, hH, hG⟩ := V
  have hin := inb_of hS hj
  obtain ⟨T', h', X', e', W, st⟩ := stD X C.1 C.2.1 eT A hin (g := mkF m pc Ls (.double x :: .int j :: .ref a :: S)) rfl rfl (hb C.2.2.1 hd.1)
  have V' := Arv.set A hk hS hN hH hG rfl W i hi hlt
  subst hs
  have k := K T' h' _ _ X' e' W V'
  rw [hd.2] at k
  exact Go.step st k
theorem wcastore (C : Cur p l e s m meth c Z bc ml own nm rt) (X : Stand p l e R s m args below meth c T locs cells slots) (eT : T.heap = h) {a : Addr} {ka : ClassId} {n j : Int32} {x : Int32} {vs : List Value} {dv : Value} (V : Arv Z h a ka .char n vs dv) (hd : Dec bc pc .castore 1 pc') (hj : ¬ j < 0 ∧ j < n) (i : Nat) (hi : j.toNatClampNeg = i) (hlt : i < vs.length) (vs' : List Value) (hs : vs.set i (.int (nar .char x)) = vs')
    (K : ∀ (T' : State) (h' : Heap) (sl : Nat) (w : Value), Stand p l e R s m args below meth c T' (locs ++ [⟨a, sl⟩]) cells slots → T'.heap = h' → Wr h h' a sl w → Arv Z h' a ka .char n vs' dv → Go p e below s Q kC kS T' (mkF m pc' Ls S)) : Go p e below s Q kC kS T (mkF m pc Ls (.int x :: .int j :: .ref a :: S)) := by
  obtain ⟨cl, A, hk, hS, hN, hH, hG⟩ := V
  have hin := inb_of hS hj
  obtain ⟨T', h', X', e', W, st⟩ := stC X C.1 C.2.1 eT A hin (g := mkF m pc Ls (.int x :: .int j :: .ref a :: S)) rfl rfl (hb C.2.2.1 hd.1)
  have V' := Arv.set A hk hS hN hH hG (fits_nar_char _) W i hi hlt
  subst hs
  have k := K T' h' _ _ X' e' W V'
  rw [hd.2] at k
  exact Go.step st k
theorem wbastoreB (C : Cur p l e s m meth c Z bc ml own nm rt) (X : Stand p l e R s m args below meth c T locs cells slots) (eT : T.heap = h) {a : Addr} {ka : ClassId} {n j : Int32} {x : Int32} {vs : List Value} {dv : Value} (V : Arv Z h a ka .byte n vs dv) (hd : Dec bc pc .bastore 1 pc') (hj : ¬ j < 0 ∧ j < n) (i : Nat) (hi : j.toNatClampNeg = i) (hlt : i < vs.length) (vs' : List Value) (hs : vs.set i (.int x.toInt8.toInt32) = vs')
    (K : ∀ (T' : State) (h' : Heap) (sl : Nat) (w : Value), Stand p l e R s m args below meth c T' (locs ++ [⟨a, sl⟩]) cells slots → T'.heap = h' → Wr h h' a sl w → Arv Z h' a ka .byte n vs' dv → Go p e below s Q kC kS T' (mkF m pc' Ls S)) : Go p e below s Q kC kS T (mkF m pc Ls (.int x :: .int j :: .ref a :: S)) := by
  obtain ⟨cl, A, hk, hS, hN, hH, hG⟩ := V
  have hin := inb_of hS hj
  obtain ⟨T', h', X', e', W, st⟩ := stB X C.1 C.2.1 eT A hin (g := mkF m pc Ls (.int x :: .int j :: .ref a :: S)) rfl rfl (hb C.2.2.1 hd.1)
  have V' := Arv.set A hk hS hN hH hG (fits_nar_byte _) W i hi hlt
  subst hs
  have k := K T' h' _ _ X' e' W V'
  rw [hd.2] at k
  exact Go.step st k
theorem wbastoreZ (C : Cur p l e s m meth c Z bc ml own nm rt) (X : Stand p l e R s m args below meth c T locs cells slots) (eT : T.heap = h) {a : Addr} {ka : ClassId} {n j : Int32} {x : Int32} {vs : List Value} {dv : Value} (V : Arv Z h a ka .boolean n vs dv) (hd : Dec bc pc .bastore 1 pc') (hj : ¬ j < 0 ∧ j < n) (i : Nat) (hi : j.toNatClampNeg = i) (hlt : i < vs.length) (vs' : List Value) (hs : vs.set i (.int (nar .boolean x)) = vs')
    (K : ∀ (T' : State) (h' : Heap) (sl : Nat) (w : Value), Stand p l e R s m args below meth c T' (locs ++ [⟨a, sl⟩]) cells slots → T'.heap = h' → Wr h h' a sl w → Arv Z h' a ka .boolean n vs' dv → Go p e below s Q kC kS T' (mkF m pc' Ls S)) : Go p e below s Q kC kS T (mkF m pc Ls (.int x :: .int j :: .ref a :: S)) := by
  obtain ⟨cl, A, hk, hS, hN, hH, hG⟩ := V
  have hin := inb_of hS hj
  obtain ⟨T', h', X', e', W, st⟩ := stZ X C.1 C.2.1 eT A hin (g := mkF m pc Ls (.int x :: .int j :: .ref a :: S)) rfl rfl (hb C.2.2.1 hd.1)
  have V' := Arv.set A hk hS hN hH hG (fits_nar_bool _) W i hi hlt
  subst hs
  have k := K T' h' _ _ X' e' W V'
  rw [hd.2] at k
  exact Go.step st k
theorem winitO (C : Cur p l e s m meth c Z bc ml own nm rt) (X : Stand p l e R s m args below meth c T locs cells slots) {index : Nat} (w1 : (Jvm.Cond.methodLink own index Lib.objectInit).before a0 Z = true) (w2 : (Jvm.Cond.instanceMethod Lib.objectInit).before a0 Z = true) (w3 : (Jvm.Cond.code Lib.objectInit ⟨#[0xb1]⟩ 1 none).before a0 Z = true) (eT : T.heap = h) {a : Addr} (hd : Dec bc pc (.invokespecial index) 3 pc') (hsz : Ls.size = ml) (hf : 1 ≤ R.frames) {W : Nat} (hW : (S.map fun v => v.category).sum ≤ W) (hl : W + 12 ≤ R.locals)
    (K : ∀ T' : State, Stand p l e R s m args below meth c T' locs cells slots → T'.heap = h → Go p e below s Q kC kS T' (mkF m pc' Ls S)) : Go p e below s Q kC kS T (mkF m pc Ls (.ref a :: S)) := by
  obtain ⟨T', X', e', st⟩ := initO X C.1 C.2.1 C.2.2.2.2.1 w1 w2 w3 eT (g := mkF m pc Ls (.ref a :: S)) rfl (hsz.trans C.2.2.2.1.symm) rfl (hb C.2.2.1 hd.1) hf (W := W) (by show 2 * 0 + _ ≤ _; simpa using hW) hl
  have k := K T' X' e'
  rw [hd.2] at k
  exact Go.step st k
theorem wspecial (C : Cur p l e s m meth c Z bc ml own nm rt) (X : Stand p l e R s m args below meth c T locs cells slots) {y : MethodName} {bytes : ByteArray} {maxL : Nat} {ret : Option FieldType} {rm : Room} {as' : Array Value} {Qc : Option Value → Heap → List Loc → Prop} {index : Nat} (hy1 : y.name = "<init>") (w1 : (Jvm.Cond.methodLink own index y).before a0 Z = true) (w2 : (Jvm.Cond.instanceMethod y).before a0 Z = true) (w3 : (Jvm.Cond.code y bytes maxL ret).before a0 Z = true) (w4 : (Jvm.Cond.initialized y.cls).before a0 Z = true) (hret : ret = none) (hy : y.cls ≠ "java/lang/invoke/MethodHandle" ∧ y.cls ≠ "java/lang/invoke/VarHandle")
    (hM : MetFree l y (head1 [Jvm.Cond.code y bytes maxL ret] rm) (fun a U => a = as' ∧ Z.Warmed39 U.vm ∧ U.heap = h) (fun _ _ _ _ _ => True) (fun _ U o U' => ∃ v L, o = .returned v ∧ Qc v U'.heap L ∧ FrameEnd U o U' L rm.cells rm.slots)) (eT : T.heap = h) (hd : Dec bc pc (.invokespecial index) 3 pc') {a : Addr} {argsL rest St : List Value} (has : as' = (.ref a :: argsL).toArray) (hst : St = argsL.reverse ++ .ref a :: rest) (hlen : ∀ sig, parseMethodDescriptor y.desc = some sig → argsL.length = sig.parameters.length) (hsz : Ls.size = ml) {W : Nat} (hW : (rest.map fun v => v.category).sum ≤ W) (hf : rm.frames + 1 ≤ R.frames) (hl : W + (maxL + 11) + rm.locals ≤ R.locals) (hc : cells + rm.cells ≤ R.cells) (hs : slots + rm.slots ≤ R.slots)
    (K : ∀ (v : Option Value) (T' : State) (L' : List Loc), Stand p l e R s m args below meth c T' (locs ++ L') (cells + rm.cells) (slots + rm.slots) → Qc v T'.heap L' → Go p e below s Q kC kS T' (mkF m pc' Ls (v.toList ++ rest))) : Go p e below s Q kC kS T (mkF m pc Ls St) := by
  subst hret
  obtain ⟨v, _, ⟨T', L', k', n'⟩, -, X', ⟨Lc, hQ, l', y', z'⟩, st⟩ := X.specialBack C.1 (y := y) hy1 C.2.2.2.2.1 (mvT C.2.1 w1) (mvT C.2.1 w2) (mvT C.2.1 w3) hy (backOf (W := W) hM C.2.1 w3 w4 hf hl) (g := mkF m pc Ls St) rfl (hsz.trans C.2.2.2.1.symm) (Steps.refl _) (a := a) (argsL := argsL) (rest := rest) hlen hst (by show 2 * 0 + _ ≤ _; simpa using hW) (hb C.2.2.1 hd.1) (fun _ _ => ⟨has.symm, eT, hc, hs⟩)
  dsimp only [Pt.U, Pt.locs, Pt.cells, Pt.slots] at X' l' y' z' st hQ
  subst l' y' z'
  have k := K v T' Lc X' hQ
  rw [hd.2] at k
  exact Go.step (fun t k => st.trans k) k
theorem wvirtual (C : Cur p l e s m meth c Z bc ml own nm rt) (X : Stand p l e R s m args below meth c T locs cells slots) {y z : MethodName} {C0 : String} {bytes : ByteArray} {maxL : Nat} {ret : Option FieldType} {rm : Room} {as' : Array Value} {Qc : Option Value → Heap → List Loc → Prop} {index : Nat} (w1 : (Jvm.Cond.methodLink own index y).before a0 Z = true) (w2 : (Jvm.Cond.declares y).before a0 Z = true) (hnf : NotFace s y) (w3 : (Jvm.Cond.selects C0 y z).before a0 Z = true) (w4 : (Jvm.Cond.instanceMethod z).before a0 Z = true) (w5 : (Jvm.Cond.code z bytes maxL ret).before a0 Z = true) (w6 : (Jvm.Cond.initialized z.cls).before a0 Z = true) (hy : y.cls ≠ "java/lang/invoke/MethodHandle" ∧ y.cls ≠ "java/lang/invoke/VarHandle")
    (hM : MetFree l z (head1 [Jvm.Cond.code z bytes maxL ret] rm) (fun a U => a = as' ∧ Z.Warmed39 U.vm ∧ U.heap = h) (fun _ _ _ _ _ => True) (fun _ U o U' => ∃ v L, o = .returned v ∧ Qc v U'.heap L ∧ FrameEnd U o U' L rm.cells rm.slots)) (eT : T.heap = h) {a : Addr} (E : Exa Z h a C0) (hd : Dec bc pc (.invokevirtual index) 3 pc') {argsL rest St : List Value} (has : as' = (.ref a :: argsL).toArray) (hst : St = argsL.reverse ++ .ref a :: rest) (hlen : ∀ sig, parseMethodDescriptor y.desc = some sig → argsL.length = sig.parameters.length) (hsz : Ls.size = ml) {W : Nat} (hW : (rest.map fun v => v.category).sum ≤ W) (hf : rm.frames + 1 ≤ R.frames) (hl : W + (maxL + 11) + rm.locals ≤ R.locals) (hc : cells + rm.cells ≤ R.cells) (hs : slots + rm.slots ≤ R.slots)
    (K : ∀ (v : Option Value) (T' : State) (L' : List Loc), Stand p l e R s m args below meth c T' (locs ++ L') (cells + rm.cells) (slots + rm.slots) → Qc v T'.heap L' → Go p e below s Q kC kS T' (mkF m pc' Ls (v.toList ++ rest))) : Go p e below s Q kC kS T (mkF m pc Ls St) := by
  obtain ⟨cB, kB, q1, q2, q3⟩ := isOf C.2.1 eT E
  obtain ⟨v, _, ⟨T', L', k', n'⟩, -, X', ⟨Lc, hQ, l', y', z'⟩, st⟩ := X.virtualBack C.1 (y := y) (z := z) C.2.2.2.2.1 (mvT C.2.1 w1) (mvT C.2.1 w2) hnf (mvT C.2.1 w3) (mvT C.2.1 w4) hy (backOf (W := W) hM C.2.1 w5 w6 hf hl) q1 q3 (g := mkF m pc Ls St) rfl (hsz.trans C.2.2.2.1.symm) (Steps.refl _) (argsL := argsL) (rest := rest) hlen hst (by show 2 * 0 + _ ≤ _; simpa using hW) (hb C.2.2.1 hd.1) (fun _ _ => ⟨has.symm, eT, hc, hs⟩)
  dsimp only [Pt.U, Pt.locs, Pt.cells, Pt.slots] at X' l' y' z' st hQ
  subst l' y' z'
  have k := K v T' Lc X' hQ
  rw [hd.2] at k
  exact Go.step (fun t k => st.trans k) k
theorem own_selp {y : MethodName} {nI : Nat} (hZ : Z.Warmed39 s.vm) (wi : (Jvm.Cond.instantiable y.cls nI).before a0 Z = true) (wp : (Jvm.Cond.privateMethod y).before a0 Z = true) (w2 : (Jvm.Cond.instanceMethod y).before a0 Z = true) (hy : y.cls ≠ "java/lang/invoke/MethodHandle" ∧ y.cls ≠ "java/lang/invoke/VarHandle") : (Jvm.Cond.selects y.cls y y).before args s = true := by
  obtain ⟨c', k', h1, h2, -, h4, -⟩ := Cond.instantiable_spec (mvT (args := args) hZ wi)
  exact selects_self_of_private h1 h2 (by simp only [Bool.or_eq_false_iff] at h4; exact h4.1) (Cond.privateMethod_at (mvP hZ wp (args := args))) (mvT hZ w2) hy
theorem wprivate (C : Cur p l e s m meth c Z bc ml own nm rt) (X : Stand p l e R s m args below meth c T locs cells slots) {y : MethodName} {bytes : ByteArray} {maxL : Nat} {ret : Option FieldType} {rm : Room} {as' : Array Value} {Qc : Option Value → Heap → List Loc → Prop} {index : Nat} (w1 : (Jvm.Cond.methodLink own index y).before a0 Z = true) (w2 : (Jvm.Cond.instanceMethod y).before a0 Z = true) (w3 : (Jvm.Cond.selects y.cls y y).before a0 Z = true) (w4 : (Jvm.Cond.privateMethod y).before a0 Z = true) (w5 : (Jvm.Cond.code y bytes maxL ret).before a0 Z = true) (w6 : (Jvm.Cond.initialized y.cls).before a0 Z = true) (hy : y.cls ≠ "java/lang/invoke/MethodHandle" ∧ y.cls ≠ "java/lang/invoke/VarHandle")
    (hM : MetFree l y (head1 [Jvm.Cond.code y bytes maxL ret] rm) (fun a U => a = as' ∧ Z.Warmed39 U.vm ∧ U.heap = h) (fun _ _ _ _ _ => True) (fun _ U o U' => ∃ v L, o = .returned v ∧ Qc v U'.heap L ∧ FrameEnd U o U' L rm.cells rm.slots)) (eT : T.heap = h) {a : Addr} {C0 : String} (E : Exa Z h a C0) (hd : Dec bc pc (.invokevirtual index) 3 pc') {argsL rest St : List Value} (has : as' = (.ref a :: argsL).toArray) (hst : St = argsL.reverse ++ .ref a :: rest) (hlen : ∀ sig, parseMethodDescriptor y.desc = some sig → argsL.length = sig.parameters.length) (hsz : Ls.size = ml) {W : Nat} (hW : (rest.map fun v => v.category).sum ≤ W) (hf : rm.frames + 1 ≤ R.frames) (hl : W + (maxL + 11) + rm.locals ≤ R.locals) (hc : cells + rm.cells ≤ R.cells) (hs : slots + rm.slots ≤ R.slots)
    (K : ∀ (v : Option Value) (T' : State) (L' : List Loc), Stand p l e R s m args below meth c T' (locs ++ L') (cells + rm.cells) (slots + rm.slots) → Qc v T'.heap L' → Go p e below s Q kC kS T' (mkF m pc' Ls (v.toList ++ rest))) : Go p e below s Q kC kS T (mkF m pc Ls St) := by
  obtain ⟨cq, q1, q2⟩ := E.cell
  obtain ⟨v, _, ⟨T', L', k', n'⟩, -, X', ⟨Lc, hQ, l', y', z'⟩, st⟩ := X.privateBack C.1 (y := y) C.2.2.2.2.1 (mvT C.2.1 w1) (mvT C.2.1 w2) (mvT C.2.1 w3) (Cond.privateMethod_at (mvP C.2.1 w4 (args := #[]))) (mvT C.2.1 w5) hy (backOf (W := W) hM C.2.1 w5 w6 hf hl) (g := mkF m pc Ls St) rfl (hsz.trans C.2.2.2.1.symm) (Steps.refl _) (a := a) (by rw [eT]; exact q1) q2 (argsL := argsL) (rest := rest) hlen hst (by show 2 * 0 + _ ≤ _; simpa using hW) (hb C.2.2.1 hd.1) (fun _ _ => ⟨has.symm, eT, hc, hs⟩)
  dsimp only [Pt.U, Pt.locs, Pt.cells, Pt.slots] at X' l' y' z' st hQ
  subst l' y' z'
  have k := K v T' Lc X' hQ
  rw [hd.2] at k
  exact Go.step (fun t k => st.trans k) k
theorem wprivateI (C : Cur p l e s m meth c Z bc ml own nm rt) (X : Stand p l e R s m args below meth c T locs cells slots) {y : MethodName} {bytes : ByteArray} {maxL : Nat} {ret : Option FieldType} {rm : Room} {as' : Array Value} {Qc : Option Value → Heap → List Loc → Prop} {index : Nat} (w1 : (Jvm.Cond.methodLink own index y).before a0 Z = true) (w2 : (Jvm.Cond.instanceMethod y).before a0 Z = true) {nI : Nat} (w3 : (Jvm.Cond.instantiable y.cls nI).before a0 Z = true) (w4 : (Jvm.Cond.privateMethod y).before a0 Z = true) (w5 : (Jvm.Cond.code y bytes maxL ret).before a0 Z = true) (w6 : (Jvm.Cond.initialized y.cls).before a0 Z = true) (hy : y.cls ≠ "java/lang/invoke/MethodHandle" ∧ y.cls ≠ "java/lang/invoke/VarHandle")
    (hM : MetFree l y (head1 [Jvm.Cond.code y bytes maxL ret] rm) (fun a U => a = as' ∧ Z.Warmed39 U.vm ∧ U.heap = h) (fun _ _ _ _ _ => True) (fun _ U o U' => ∃ v L, o = .returned v ∧ Qc v U'.heap L ∧ FrameEnd U o U' L rm.cells rm.slots)) (eT : T.heap = h) {a : Addr} {C0 : String} (E : Exa Z h a C0) (hd : Dec bc pc (.invokevirtual index) 3 pc') {argsL rest St : List Value} (has : as' = (.ref a :: argsL).toArray) (hst : St = argsL.reverse ++ .ref a :: rest) (hlen : ∀ sig, parseMethodDescriptor y.desc = some sig → argsL.length = sig.parameters.length) (hsz : Ls.size = ml) {W : Nat} (hW : (rest.map fun v => v.category).sum ≤ W) (hf : rm.frames + 1 ≤ R.frames) (hl : W + (maxL + 11) + rm.locals ≤ R.locals) (hc : cells + rm.cells ≤ R.cells) (hs : slots + rm.slots ≤ R.slots)
    (K : ∀ (v : Option Value) (T' : State) (L' : List Loc), Stand p l e R s m args below meth c T' (locs ++ L') (cells + rm.cells) (slots + rm.slots) → Qc v T'.heap L' → Go p e below s Q kC kS T' (mkF m pc' Ls (v.toList ++ rest))) : Go p e below s Q kC kS T (mkF m pc Ls St) := by
  obtain ⟨cq, q1, q2⟩ := E.cell
  obtain ⟨v, _, ⟨T', L', k', n'⟩, -, X', ⟨Lc, hQ, l', y', z'⟩, st⟩ := X.privateBack C.1 (y := y) C.2.2.2.2.1 (mvT C.2.1 w1) (mvT C.2.1 w2) (own_selp C.2.1 w3 w4 w2 hy) (Cond.privateMethod_at (mvP C.2.1 w4 (args := #[]))) (mvT C.2.1 w5) hy (backOf (W := W) hM C.2.1 w5 w6 hf hl) (g := mkF m pc Ls St) rfl (hsz.trans C.2.2.2.1.symm) (Steps.refl _) (a := a) (by rw [eT]; exact q1) q2 (argsL := argsL) (rest := rest) hlen hst (by show 2 * 0 + _ ≤ _; simpa using hW) (hb C.2.2.1 hd.1) (fun _ _ => ⟨has.symm, eT, hc, hs⟩)
  dsimp only [Pt.U, Pt.locs, Pt.cells, Pt.slots] at X' l' y' z' st hQ
  subst l' y' z'
  have k := K v T' Lc X' hQ
  rw [hd.2] at k
  exact Go.step (fun t k => st.trans k) k
theorem wstatic (C : Cur p l e s m meth c Z bc ml own nm rt) (X : Stand p l e R s m args below meth c T locs cells slots) {y : MethodName} {bytes : ByteArray} {maxL : Nat} {ret : Option FieldType} {rm : Room} {as' : Array Value} {Qc : Option Value → Heap → List Loc → Prop} {index : Nat} (w1 : (Jvm.Cond.methodLink own index y).before a0 Z = true) (w2 : (Jvm.Cond.static y).before a0 Z = true) (w3 : (Jvm.Cond.initialized y.cls).before a0 Z = true) (w4 : (Jvm.Cond.code y bytes maxL ret).before a0 Z = true) (hy : y.cls ≠ "java/lang/invoke/MethodHandle" ∧ y.cls ≠ "java/lang/invoke/VarHandle")
    (hM : MetFree l y (head1 [Jvm.Cond.code y bytes maxL ret] rm) (fun a U => a = as' ∧ Z.Warmed39 U.vm ∧ U.heap = h) (fun _ _ _ _ _ => True) (fun _ U o U' => ∃ v L, o = .returned v ∧ Qc v U'.heap L ∧ FrameEnd U o U' L rm.cells rm.slots)) (eT : T.heap = h) (hd : Dec bc pc (.invokestatic index) 3 pc') {argsL rest St : List Value} (has : as' = argsL.toArray) (hst : St = argsL.reverse ++ rest) (hlen : ∀ sig, parseMethodDescriptor y.desc = some sig → argsL.length = sig.parameters.length) (hsz : Ls.size = ml) {W : Nat} (hW : (rest.map fun v => v.category).sum ≤ W) (hf : rm.frames + 1 ≤ R.frames) (hl : W + (maxL + 11) + rm.locals ≤ R.locals) (hc : cells + rm.cells ≤ R.cells) (hs : slots + rm.slots ≤ R.slots)
    (K : ∀ (v : Option Value) (T' : State) (L' : List Loc), Stand p l e R s m args below meth c T' (locs ++ L') (cells + rm.cells) (slots + rm.slots) → Qc v T'.heap L' → Go p e below s Q kC kS T' (mkF m pc' Ls (v.toList ++ rest))) : Go p e below s Q kC kS T (mkF m pc Ls St) := by
  obtain ⟨v, _, ⟨T', L', k', n'⟩, -, X', ⟨Lc, hQ, l', y', z'⟩, st⟩ := Jvm.LawKit.callS X C.1 (y := y) C.2.2.2.2.1 (mvT C.2.1 w1) (mvT C.2.1 w2) (mvT C.2.1 w3) (mvT C.2.1 w4) hy (backOf (W := W) hM C.2.1 w4 w3 hf hl) (g := mkF m pc Ls St) rfl (hsz.trans C.2.2.2.1.symm) (argsL := argsL) (rest := rest) hlen hst (by show 2 * 0 + _ ≤ _; simpa using hW) (hb C.2.2.1 hd.1) (fun _ _ => ⟨has.symm, eT, hc, hs⟩)
  dsimp only [Pt.U, Pt.locs, Pt.cells, Pt.slots] at X' l' y' z' st hQ
  subst l' y' z'
  have k := K v T' Lc X' hQ
  rw [hd.2] at k
  exact Go.step (st) k
theorem Go.mono {Q' : Option Value → Heap → List Loc → Prop} {f : JFrame} (g : Go p e below s Q kC kS T f) (q : ∀ v h L, Q v h L → Q' v h L) : Go p e below s Q' kC kS T f := by
  obtain ⟨s₂, o, h1, h2, h3, v, L, h4, h5, h6⟩ := g; exact ⟨s₂, o, h1, h2, h3, v, L, h4, q _ _ _ h5, h6⟩
theorem wldcI (C : Cur p l e s m meth c Z bc ml own nm rt) (X : Stand p l e R s m args below meth c T locs cells slots) {index : Nat} {b : Int32} (w : (Jvm.Cond.constant own index b).before a0 Z = true) (hd : Dec bc pc (.ldc index) 2 pc') (g : Go p e below s Q kC kS T (mkF m pc' Ls (.int b :: S))) : Go p e below s Q kC kS T (mkF m pc Ls S) := by
  rw [hd.2] at g
  exact Go.step (X.ldcInt C.1 C.2.2.2.2.1 (mvT C.2.1 w) (g := mkF m pc Ls S) rfl (hb C.2.2.1 hd.1)) g
theorem wldcwI (C : Cur p l e s m meth c Z bc ml own nm rt) (X : Stand p l e R s m args below meth c T locs cells slots) {index : Nat} {b : Int32} (w : (Jvm.Cond.constant own index b).before a0 Z = true) (hd : Dec bc pc (.ldc_w index) 3 pc') (g : Go p e below s Q kC kS T (mkF m pc' Ls (.int b :: S))) : Go p e below s Q kC kS T (mkF m pc Ls S) := by
  rw [hd.2] at g
  exact Go.step (X.ldcwInt C.1 C.2.2.2.2.1 (mvT C.2.1 w) (g := mkF m pc Ls S) rfl (hb C.2.2.1 hd.1)) g
theorem wldc2J (C : Cur p l e s m meth c Z bc ml own nm rt) (X : Stand p l e R s m args below meth c T locs cells slots) {index : Nat} {b : Int64} (w : (Jvm.Cond.constantLong own index b).before a0 Z = true) (hd : Dec bc pc (.ldc2_w index) 3 pc') (g : Go p e below s Q kC kS T (mkF m pc' Ls (.long b :: S))) : Go p e below s Q kC kS T (mkF m pc Ls S) := by
  rw [hd.2] at g
  exact Go.step (X.ldc2Long C.1 C.2.2.2.2.1 (mvT C.2.1 w) (g := mkF m pc Ls S) rfl (hb C.2.2.1 hd.1)) g
theorem wldc2D (C : Cur p l e s m meth c Z bc ml own nm rt) (X : Stand p l e R s m args below meth c T locs cells slots) {index : Nat} {b : UInt64} (w : (Jvm.Cond.constantDouble own index b).before a0 Z = true) (hd : Dec bc pc (.ldc2_w index) 3 pc') (g : Go p e below s Q kC kS T (mkF m pc' Ls (.double b :: S))) : Go p e below s Q kC kS T (mkF m pc Ls S) := by
  rw [hd.2] at g
  exact Go.step (X.ldc2DoubleC C.1 C.2.2.2.2.1 (mvT C.2.1 w) (g := mkF m pc Ls S) rfl (hb C.2.2.1 hd.1)) g
theorem wmaxD (C : Cur p l e s m meth c Z bc ml own nm rt) (X : Stand p l e R s m args below meth c T locs cells slots) {index : Nat} {x y : UInt64} (w1 : (Jvm.Cond.methodLink own index Jvm.Free.Fl.Abs.maxDN).before a0 Z = true) (w2 : (Jvm.Cond.static Jvm.Free.Fl.Abs.maxDN).before a0 Z = true) (w3 : (Jvm.Cond.initialized Jvm.Free.Fl.Abs.maxDN.cls).before a0 Z = true) (w4 : (Jvm.Cond.code Jvm.Free.Fl.Abs.maxDN Jvm.Free.Fl.Abs.maxDCode 4 (some .double)).before a0 Z = true)
    (eT : T.heap = h) (hd : Dec bc pc (.invokestatic index) 3 pc') (nx : Jvm.Free.Fl.NoNaN64 x) (ny : Jvm.Free.Fl.NoNaN64 y) (hsz : Ls.size = ml) {W : Nat} (hW : (S.map fun v => v.category).sum ≤ W) (hf : 1 ≤ R.frames) (hl : W + 15 ≤ R.locals) (hc : cells ≤ R.cells) (hs : slots ≤ R.slots)
    (K : ∀ T' : State, Stand p l e R s m args below meth c T' locs cells slots → T'.heap = h → Go p e below s Q kC kS T' (mkF m pc' Ls (.double (Jvm.Native.java_lang_Math.nans.pick64 true x y) :: S))) : Go p e below s Q kC kS T (mkF m pc Ls (.double y :: .double x :: S)) := by
  obtain ⟨T', X', e', st⟩ := natS X C.1 C.2.1 C.2.2.2.2.1 w1 w2 w3 w4 (by decide) eT (W := W) (F := fun a' => a' = #[.double x, .double y] ∧ Jvm.Free.Fl.NoNaN64 x ∧ Jvm.Free.Fl.NoNaN64 y) (fun c4 => Jvm.Free.Fl.Abs.maxD_pays x y c4 hf hl) (g := mkF m pc Ls (.double y :: .double x :: S)) rfl (hsz.trans C.2.2.2.1.symm) (argsL := [.double x, .double y]) (rest := S) (lenOf (show parseMethodDescriptor "(DD)D" = some ⟨[.double, .double], some .double⟩ by decide +kernel) rfl) rfl (by show 2 * 0 + _ ≤ _; simpa using hW) (hb C.2.2.1 hd.1) hc hs ⟨rfl, nx, ny⟩ rfl
  have k := K T' X' e'
  rw [hd.2] at k
  exact Go.step st k
end Kit
section Kit2
variable {p : Program} {e : Env} {below : List Frame} {s : State} {Q : Option Value → Heap → List Loc → Prop} {kC kS : Nat} {T : State} {m : MethodId} {pc : Nat} {Ls : Array Slot} {S : List Value}
theorem own_foldI {x z : Int32} (q : x = z) (g : Go p e below s Q kC kS T (mkF m pc Ls (.int z :: S))) : Go p e below s Q kC kS T (mkF m pc Ls (.int x :: S)) := q ▸ g
theorem own_foldJ {x z : Int64} (q : x = z) (g : Go p e below s Q kC kS T (mkF m pc Ls (.long z :: S))) : Go p e below s Q kC kS T (mkF m pc Ls (.long x :: S)) := q ▸ g
theorem own_foldD {x z : UInt64} (q : x = z) (g : Go p e below s Q kC kS T (mkF m pc Ls (.double z :: S))) : Go p e below s Q kC kS T (mkF m pc Ls (.double x :: S)) := q ▸ g
end Kit2
section Ext
variable {p : Program} {l : Launch} {e : Env} {R : Room} {s : State} {m : MethodId} {args : Array Value} {below : List Frame} {meth : Method} {c : Code} {T : State} {locs : List Loc} {cells slots : Nat} {Z : State} {a0 : Array Value} {bc : ByteArray} {ml : Nat} {own nm : String} {rt : Option FieldType} {Q : Option Value → Heap → List Loc → Prop} {kC kS pc pc' : Nat} {Ls : Array Slot} {S : List Value} {h h' : Heap}
theorem own_ns_exa {a : Addr} {C : String} (E : Exa Z h a C) : ∃ cl : Cell, h[a]? = some cl ∧ cl.vm.isStatics = false := by obtain ⟨cl, k, h1, -, -, h4, -⟩ := E; exact ⟨cl, h1, h4⟩
theorem own_sta_keep {C n d : String} {v : Value} {ws : List Addr} (F : Sta Z h C n d v) (K : Keep h h' ws) (N : ∀ x ∈ ws, ∃ cl : Cell, h[x]? = some cl ∧ cl.vm.isStatics = false) : Sta Z h' C n d v := by
  obtain ⟨cf, i, k, f, st, cell, h1, h2, h3, h4, h5, h6, h7⟩ := F
  refine ⟨cf, i, k, f, st, cell, h1, h2, h3, h4, K.2.1 st cell h5 fun q => ?_, h6, h7⟩
  obtain ⟨cl, g1, g2⟩ := N st q
  cases h5.symm.trans g1
  rw [h6] at g2; cases g2
def own_Mir (Z : State) (C : String) (a : Addr) : Prop := ∃ (c : ClassId) (k : Class), Z.vm.findClass C = some c ∧ Z.vm.classes[c]? = some k ∧ k.mirror = some a
def own_Cac (Z : State) (h : Heap) (a : Addr) (K : String) : Prop := ∃ cl : Cell, Arr Z h a cl (.object K) ∧ cl.slots.size = 256 ∧ ∀ i, i < 256 → ∃ y, cl.slots[i]? = some (.ref y) ∧ Exa Z h y K
theorem own_Cac.lt {a : Addr} {K : String} (F : own_Cac Z h a K) : a < h.size := by obtain ⟨cl, A, -⟩ := F; exact A.lt
theorem own_Cac.ext {a : Addr} {K : String} (F : own_Cac Z h a K) (E : Ext h h') : own_Cac Z h' a K := by
  obtain ⟨cl, A, q, r⟩ := F; exact ⟨cl, A.ext E, q, fun i hi => by obtain ⟨y, h1, h2⟩ := r i hi; exact ⟨y, h1, h2.ext E⟩⟩
theorem own_Cac.other {a b : Addr} {K : String} {sl : Nat} {v : Value} (F : own_Cac Z h a K) (W : Wr h h' b sl v) (n : a ≠ b) : own_Cac Z h' a K := by
  obtain ⟨cl, A, q, r⟩ := F; exact ⟨cl, A.other W n, q, fun i hi => by obtain ⟨y, h1, h2⟩ := r i hi; exact ⟨y, h1, h2.wr W⟩⟩
theorem own_Cac.keep {a : Addr} {K : String} {ws : List Addr} (F : own_Cac Z h a K) (E : Keep h h' ws) (n : a ∉ ws) : own_Cac Z h' a K := by
  obtain ⟨cl, A, q, r⟩ := F; exact ⟨cl, ⟨E.2.1 a cl A.1 n, A.2⟩, q, fun i hi => by obtain ⟨y, h1, h2⟩ := r i hi; exact ⟨y, h1, h2.keep E⟩⟩
theorem own_ldc_wp {Q : Unit → Pre} {E : CtlPost} {e : Env} {d : Bool} {acts : List Action} {s : State} {f : JFrame} {index i cc : Nat} {a : Addr} {k kc : Class} {cf : ClassFile} {vm' : Vm} (hs : s.topJava?.isSome) (hk : s.vm.classes[f.method.cls]? = some k) (hcf : k.cf = some cf) (hc : cf.constantPool[index]? = some (.class_ i))
    (hg : (Jvm.resolveClass f.method.cls index).Gives e.toSetting s.vm (.ok cc) vm') (hsz : vm'.classes.size ≤ s.vm.classes.size) (hkc : vm'.classes[cc]? = some kc) (hmir : kc.mirror = some a) :
    wp (ldc.sem index) Q E e d acts (s.setTop f) ↔ Q () true acts ((s.setVm vm').setTop { f with stack := .ref a :: f.stack }) := by
  have hs' : (s.setVm vm').topJava?.isSome := hs
  have e1 : (s.setTop f).setVm vm' = (s.setVm vm').setTop f := rfl
  simp only [ldc.sem, wp_bind', Jvm.constantAt, W.currentClass, W.theClass, State.method?_setTop f hs, State.vm_setTop, Option.some.injEq, exists_eq_left', hk, hcf, Option.bind_some, hc, wp_pure', W.resolveClassAt_links (t := s.setTop f) (State.method?_setTop f hs) hg hsz, e1,
    W.mirrorOf_ready (s := (s.setVm vm').setTop f) (show ((s.setVm vm').setTop f).vm.classes[cc]? = some kc from hkc) hmir, W.mark, W.pushRef]
  simp [State.topJava?_setTop' _ hs', hs']
theorem own_cls_entry {cf : ClassFile} {index : Nat} {name : String} (h : cf.constantPool.className? index = some name) : ∃ i, cf.constantPool[index]? = some (.class_ i) := by
  unfold ConstantPool.className? at h
  split at h
  · exact ⟨_, by assumption⟩
  · cases h
theorem own_ldcC (X : Stand p l e R s m args below meth c T locs cells slots) (hexec : p.tables.exec = Jvm.exec) {own name : String} {index : Nat} (hown : s.vm.findClass own = some m.cls) (hlink : (Jvm.Cond.classLink own index name).before args s = true)
    {cT : ClassId} {kc : Class} {a : Addr} (hcT : s.vm.findClass name = some cT) (hkc : s.vm.classes[cT]? = some kc) (hmir : kc.mirror = some a) {g : JFrame} (hg : g.method = m) (hdg : decode c.code g.pc = .ok (.ldc index, 2)) :
    ∃ vm', Stand p l e R s m args below meth c (T.setVm vm') locs cells slots ∧ ∀ target, Steps p.tables e below ((T.setVm vm').setTop { g with pc := g.pc + 2, stack := .ref a :: g.stack }) target → Steps p.tables e below (T.setTop g) target := by
  have hpl : e.platform.magicAccessors = ({} : Platform).magicAccessors := by rw [X.admits.platform]
  obtain ⟨c', hc', hcl⟩ := Cond.classLink_spec hown hlink e.platform hpl
  cases hcT.symm.trans hc'
  obtain ⟨dk, cf, nme, kt, hd, hcf, _, hname, _, hkt, _, hopen⟩ := hcl.here
  have hcl₀ := X.warmed.classLinks hcl
  have hW' : s.WarmedH (T.vm.noted m.cls index (.cls cT)) := X.warmed.noted hd hopen (State.rightAt_cls hcl)
  obtain ⟨kt', hkt', het⟩ := hW'.alike.2.2 _ _ hkc
  obtain ⟨dk', hd', hed⟩ := X.warmed.alike.2.2 _ _ hd
  obtain ⟨i, hi⟩ := own_cls_entry hname
  refine ⟨_, X.noted hW', fun target hrest => ?_⟩
  subst hg
  jvm_step X.here [hexec, hdg, own_ldc_wp (e := e) (s := T) (f := g) X.here.top hd' (by rw [hed]; exact hcf) hi (resolveClass_links e.toSetting hcl₀) (by no_record) hkt' (by rw [het]; exact hmir)]
  exact hrest
theorem wldcC (C : Cur p l e s m meth c Z bc ml own nm rt) (X : Stand p l e R s m args below meth c T locs cells slots) {C0 : String} {index : Nat} (w : (Jvm.Cond.classLink own index C0).before a0 Z = true) {b : Addr} (M : own_Mir Z C0 b) (eT : T.heap = h) (hd : Dec bc pc (.ldc index) 2 pc')
    (K : ∀ T' : State, Stand p l e R s m args below meth c T' locs cells slots → T'.heap = h → Go p e below s Q kC kS T' (mkF m pc' Ls (.ref b :: S))) : Go p e below s Q kC kS T (mkF m pc Ls S) := by
  obtain ⟨cc, kc, m1, m2, m3⟩ := M
  obtain ⟨k', q, ek⟩ := C.2.1.alike.2.2 _ _ m2
  obtain ⟨vm', X', st⟩ := own_ldcC X C.1 C.2.2.2.2.1 (mvT C.2.1 w) (by rw [C.2.1.alike.findClass]; exact m1) q (by rw [ek]; exact m3) (g := mkF m pc Ls S) rfl (hb C.2.2.1 hd.1)
  have k := K _ X' eT
  rw [hd.2] at k
  exact Go.step st k
theorem wgetC (C : Cur p l e s m meth c Z bc ml own nm rt) (X : Stand p l e R s m args below meth c T locs cells slots) {C0 : String} {index : Nat} (w1 : (Jvm.Cond.methodLink own index Jvm.Stand.gcN).before a0 Z = true) (w2 : (Jvm.Cond.declares Jvm.Stand.gcN).before a0 Z = true) (w4 : (Jvm.Cond.selects C0 Jvm.Stand.gcN Jvm.Stand.gcN).before a0 Z = true) (w5 : (Jvm.Cond.instanceMethod Jvm.Stand.gcN).before a0 Z = true) (w6 : (Jvm.Cond.native Jvm.Stand.gcN).before a0 Z = true) {b : Addr} (M : own_Mir Z C0 b) (eT : T.heap = h) {a : Addr} (E : Exa Z h a C0) (hd : Dec bc pc (.invokevirtual index) 3 pc')
    (hsz : Ls.size = ml) {W : Nat} (hW : (S.map fun v => v.category).sum ≤ W) (hf : 1 ≤ R.frames) (hl : W + (nativeFrameWords "java/lang/Object" "getClass" 1 + 11) ≤ R.locals)
    (K : ∀ T' : State, Stand p l e R s m args below meth c T' locs cells slots → T'.heap = h → Go p e below s Q kC kS T' (mkF m pc' Ls (.ref b :: S))) : Go p e below s Q kC kS T (mkF m pc Ls (.ref a :: S)) := by
  obtain ⟨cB, kB, i1, i2, i3⟩ := isOf C.2.1 eT E
  obtain ⟨cc, kc, m1, m2, m3⟩ := M
  rw [C.2.1.alike.findClass] at i1
  cases i1.symm.trans m1
  obtain ⟨k', q, ek⟩ := C.2.1.alike.2.2 _ _ m2
  obtain ⟨vm', X', st⟩ := X.getClassOf C.1 C.2.2.2.2.1 (mvT C.2.1 w1) (mvT C.2.1 w2) (notFace_of_selects (args := #[]) (mvT C.2.1 w4)) (mvT C.2.1 w4) (mvT C.2.1 w5) (mvT C.2.1 w6) (by rw [C.2.1.alike.findClass]; exact m1) i3 q (by rw [ek]; exact m3) (g := mkF m pc Ls (.ref a :: S)) rfl (hsz.trans C.2.2.2.1.symm) rfl (hb C.2.2.1 hd.1) hf (by show 2 * 0 + _ + _ ≤ _; omega)
  have k := K _ X' eT
  rw [hd.2] at k
  exact Go.step st k
theorem wanew (C : Cur p l e s m meth c Z bc ml own nm rt) (X : Stand p l e R s m args below meth c T locs cells slots) {C0 ad : String} {index : Nat} (w1 : (Jvm.Cond.classLink own index C0).before a0 Z = true) (w2 : (Jvm.Cond.arrayOver (.object C0)).before a0 Z = true) (had : "[" ++ (FieldType.object C0).toString = ad) (eT : T.heap = h) {n : Int32} (hd : Dec bc pc (.anewarray index) 3 pc') (hn : ¬ n < 0) {cap : Nat} (hcap : n.toNatClampNeg ≤ cap) (hb' : cap * 8 ≤ 536870912) (hc : cells + 1 ≤ R.cells) (hl : slots + cap ≤ R.slots)
    (K : ∀ (T' : State) (h' : Heap) (a : Addr) (k : ClassId), a = h.size → Stand p l e R s m args below meth c T' locs (cells + 1) (slots + cap) → T'.heap = h' → Ext h h' → Arv Z h' a k (.object C0) n [] .null → Exa Z h' a ad → Ovr Z k C0 → Go p e below s Q kC kS T' (mkF m pc' Ls (.ref a :: S))) : Go p e below s Q kC kS T (mkF m pc Ls (.int n :: S)) := by
  obtain ⟨T', h', kA, X', e', E, A, E2, O, st⟩ := newRE X C.1 C.2.1 C.2.2.2.2.1 w1 w2 eT (g := mkF m pc Ls (.int n :: S)) rfl (hb C.2.2.1 hd.1) rfl hn hcap hb' hc hl had
  have k := K T' h' _ kA rfl X' e' E (Arv.new A hn) E2 O
  rw [hd.2] at k
  exact Go.step st k
theorem waast (C : Cur p l e s m meth c Z bc ml own nm rt) (X : Stand p l e R s m args below meth c T locs cells slots) (eT : T.heap = h) {a y : Addr} {ka : ClassId} {C0 : String} {n j : Int32} {vs : List Value} {dv : Value} (V : Arv Z h a ka (.object C0) n vs dv) (O : Ovr Z ka C0) (I : Ins Z h y C0 true) (hd : Dec bc pc .aastore 1 pc') (hj : ¬ j < 0 ∧ j < n) (i : Nat) (hi : j.toNatClampNeg = i) (hlt : i < vs.length) (vs' : List Value) (hs : vs.set i (.ref y) = vs')
    (K : ∀ (T' : State) (h' : Heap) (sl : Nat) (w : Value), Stand p l e R s m args below meth c T' (locs ++ [⟨a, sl⟩]) cells slots → T'.heap = h' → Wr h h' a sl w → Arv Z h' a ka (.object C0) n vs' dv → Go p e below s Q kC kS T' (mkF m pc' Ls S)) : Go p e below s Q kC kS T (mkF m pc Ls (.ref y :: .int j :: .ref a :: S)) := by
  obtain ⟨cl, A, hk, hS, hN, hH, hG⟩ := V
  have hin := inb_of hS hj
  obtain ⟨T', h', X', e', W, st⟩ := Jvm.RoadKit.stR X C.1 C.2.1 eT A hin rfl (Sto.ofV A hk O I) (g := mkF m pc Ls (.ref y :: .int j :: .ref a :: S)) rfl rfl (hb C.2.2.1 hd.1)
  have V' := Arv.set A hk hS hN hH hG rfl W i hi hlt
  subst hs
  have k := K T' h' _ _ X' e' W V'
  rw [hd.2] at k
  exact Go.step st k
theorem wnewarrE (C : Cur p l e s m meth c Z bc ml own nm rt) (X : Stand p l e R s m args below meth c T locs cells slots) {aty : ArrayType} {ad : String} (w : (Jvm.Cond.arrayClass (newarray.typeOf aty)).before a0 Z = true) (had : "[" ++ (newarray.typeOf aty).toString = ad) (eT : T.heap = h) {n : Int32} (hd : Dec bc pc (.newarray aty) 2 pc') (hn : ¬ n < 0) {cap : Nat} (hcap : n.toNatClampNeg ≤ cap) (hb' : cap * 8 ≤ 536870912) (hc : cells + 1 ≤ R.cells) (hl : slots + cap ≤ R.slots)
    (K : ∀ (T' : State) (h' : Heap) (a : Addr) (k : ClassId), a = h.size → Stand p l e R s m args below meth c T' locs (cells + 1) (slots + cap) → T'.heap = h' → Ext h h' → Arv Z h' a k (newarray.typeOf aty) n [] (defaultValue (newarray.typeOf aty)) → Exa Z h' a ad → Go p e below s Q kC kS T' (mkF m pc' Ls (.ref a :: S))) : Go p e below s Q kC kS T (mkF m pc Ls (.int n :: S)) := by
  obtain ⟨T', h', kA, X', e', E, A, E2, st⟩ := newPE X C.1 C.2.1 w eT (g := mkF m pc Ls (.int n :: S)) rfl (hb C.2.2.1 hd.1) rfl hn hcap hb' hc hl had
  have k := K T' h' _ kA rfl X' e' E (Arv.new A hn) E2
  rw [hd.2] at k
  exact Go.step st k
theorem wcast (C : Cur p l e s m meth c Z bc ml own nm rt) (X : Stand p l e R s m args below meth c T locs cells slots) {C0 : String} {index : Nat} (w : (Jvm.Cond.classLink own index C0).before a0 Z = true) (eT : T.heap = h) {a : Addr} (F : Ins Z h a C0 true) (hd : Dec bc pc (.checkcast index) 3 pc')
    (K : ∀ T' : State, Stand p l e R s m args below meth c T' locs cells slots → T'.heap = h → Go p e below s Q kC kS T' (mkF m pc' Ls (.ref a :: S))) : Go p e below s Q kC kS T (mkF m pc Ls (.ref a :: S)) := by
  obtain ⟨T', X', e', st⟩ := castY X C.1 C.2.1 C.2.2.2.2.1 w eT F (g := mkF m pc Ls (.ref a :: S)) rfl rfl (hb C.2.2.1 hd.1)
  have k := K T' X' e'
  rw [hd.2] at k
  exact Go.step st k
theorem waaloadA (C : Cur p l e s m meth c Z bc ml own nm rt) (X : Stand p l e R s m args below meth c T locs cells slots) (eT : T.heap = h) {a : Addr} {cl : Cell} {ty : FieldType} (A : Arr Z h a cl ty) (hty : ty.isReference = true) {j : Int32} (hin : ¬ (j < 0 ∨ cl.slots.size ≤ j.toNatClampNeg)) {v : Value} (hv : cl.slots[j.toNatClampNeg]? = some v) (hd : Dec bc pc .aaload 1 pc') (g : Go p e below s Q kC kS T (mkF m pc' Ls (v :: S))) : Go p e below s Q kC kS T (mkF m pc Ls (.int j :: .ref a :: S)) := by
  rw [hd.2] at g
  exact Go.step (fun t k => X.aaload C.1 (by rw [eT]; exact A.1) (State.isArrayOf_alike C.2.1.alike A.2.1) hty A.2.2 hin hv (g := mkF m pc Ls (.int j :: .ref a :: S)) rfl rfl (hb C.2.2.1 hd.1) t k) g
end Ext
theorem tw_0 {Z : State} {a0 : Array Value} (hw : ∀ d ∈ tables_1, d.before a0 Z = true) : (Jvm.Cond.constant "io/invocant/cli/ValueOfPinLaw" (7 : Nat) (2147483647 : Int32)).before a0 Z = true := hw _ (List.mem_of_getElem? (i := 0) rfl)
theorem tw_1 {Z : State} {a0 : Array Value} (hw : ∀ d ∈ tables_1, d.before a0 Z = true) : (Jvm.Cond.methodLink "io/invocant/cli/ValueOfPinLaw" (33 : Nat) ({ cls := "io/invocant/cli/Expression$Value", name := "of", desc := "(Ljava/lang/Object;)Lio/invocant/cli/Expression$Value;" } : Jvm.MethodName)).before a0 Z = true := hw _ (List.mem_of_getElem? (i := 1) rfl)
theorem tw_2 {Z : State} {a0 : Array Value} (hw : ∀ d ∈ tables_1, d.before a0 Z = true) : (Jvm.Cond.static ({ cls := "io/invocant/cli/Expression$Value", name := "of", desc := "(Ljava/lang/Object;)Lio/invocant/cli/Expression$Value;" } : Jvm.MethodName)).before a0 Z = true := hw _ (List.mem_of_getElem? (i := 2) rfl)
theorem tw_3 {Z : State} {a0 : Array Value} (hw : ∀ d ∈ tables_1, d.before a0 Z = true) : (Jvm.Cond.initialized "io/invocant/cli/Expression$Value").before a0 Z = true := hw _ (List.mem_of_getElem? (i := 3) rfl)
theorem tw_4 {Z : State} {a0 : Array Value} (hw : ∀ d ∈ tables_1, d.before a0 Z = true) : (Jvm.Cond.code ({ cls := "io/invocant/cli/Expression$Value", name := "of", desc := "(Ljava/lang/Object;)Lio/invocant/cli/Expression$Value;" } : Jvm.MethodName) prog_16_method_2_code (1 : Nat) (Option.some (Jvm.ClassFile.FieldType.object "io/invocant/cli/Expression$Value"))).before a0 Z = true := hw _ (List.mem_of_getElem? (i := 4) rfl)
theorem tw_5 {Z : State} {a0 : Array Value} (hw : ∀ d ∈ tables_1, d.before a0 Z = true) : (Jvm.Cond.classLink "io/invocant/cli/Expression$Value" (8 : Nat) "io/invocant/cli/Expression$Value").before a0 Z = true := hw _ (List.mem_of_getElem? (i := 5) rfl)
theorem tw_6 {Z : State} {a0 : Array Value} (hw : ∀ d ∈ tables_1, d.before a0 Z = true) : (Jvm.Cond.instantiable "io/invocant/cli/Expression$Value" (2 : Nat)).before a0 Z = true := hw _ (List.mem_of_getElem? (i := 6) rfl)
theorem tw_7 {Z : State} {a0 : Array Value} (hw : ∀ d ∈ tables_1, d.before a0 Z = true) : (Jvm.Cond.methodLink "io/invocant/cli/Expression$Value" (23 : Nat) ({ cls := "io/invocant/cli/Expression$Value", name := "<init>", desc := "(Ljava/lang/Class;Ljava/lang/Object;)V" } : Jvm.MethodName)).before a0 Z = true := hw _ (List.mem_of_getElem? (i := 7) rfl)
theorem tw_8 {Z : State} {a0 : Array Value} (hw : ∀ d ∈ tables_1, d.before a0 Z = true) : (Jvm.Cond.instanceMethod ({ cls := "io/invocant/cli/Expression$Value", name := "<init>", desc := "(Ljava/lang/Class;Ljava/lang/Object;)V" } : Jvm.MethodName)).before a0 Z = true := hw _ (List.mem_of_getElem? (i := 8) rfl)
theorem tw_9 {Z : State} {a0 : Array Value} (hw : ∀ d ∈ tables_1, d.before a0 Z = true) : (Jvm.Cond.code ({ cls := "io/invocant/cli/Expression$Value", name := "<init>", desc := "(Ljava/lang/Class;Ljava/lang/Object;)V" } : Jvm.MethodName) prog_16_method_1_code (3 : Nat) (Option.none : Option Jvm.ClassFile.FieldType)).before a0 Z = true := hw _ (List.mem_of_getElem? (i := 9) rfl)
theorem tw_10 {Z : State} {a0 : Array Value} (hw : ∀ d ∈ tables_1, d.before a0 Z = true) : (Jvm.Cond.methodLink "io/invocant/cli/Expression$Value" (1 : Nat) ({ cls := "java/lang/Record", name := "<init>", desc := "()V" } : Jvm.MethodName)).before a0 Z = true := hw _ (List.mem_of_getElem? (i := 10) rfl)
theorem tw_11 {Z : State} {a0 : Array Value} (hw : ∀ d ∈ tables_1, d.before a0 Z = true) : (Jvm.Cond.instanceMethod ({ cls := "java/lang/Record", name := "<init>", desc := "()V" } : Jvm.MethodName)).before a0 Z = true := hw _ (List.mem_of_getElem? (i := 11) rfl)
theorem tw_13 {Z : State} {a0 : Array Value} (hw : ∀ d ∈ tables_1, d.before a0 Z = true) : (Jvm.Cond.initialized "java/lang/Record").before a0 Z = true := hw _ (List.mem_of_getElem? (i := 13) rfl)
theorem tw_14 {Z : State} {a0 : Array Value} (hw : ∀ d ∈ tables_1, d.before a0 Z = true) : (Jvm.Cond.code ({ cls := "java/lang/Record", name := "<init>", desc := "()V" } : Jvm.MethodName) jdk_30_method_1_code (1 : Nat) (Option.none : Option Jvm.ClassFile.FieldType)).before a0 Z = true := hw _ (List.mem_of_getElem? (i := 14) rfl)
theorem tw_15 {Z : State} {a0 : Array Value} (hw : ∀ d ∈ tables_1, d.before a0 Z = true) : (Jvm.Cond.methodLink "java/lang/Record" (1 : Nat) ({ cls := "java/lang/Object", name := "<init>", desc := "()V" } : Jvm.MethodName)).before a0 Z = true := hw _ (List.mem_of_getElem? (i := 15) rfl)
theorem tw_16 {Z : State} {a0 : Array Value} (hw : ∀ d ∈ tables_1, d.before a0 Z = true) : (Jvm.Cond.instanceMethod ({ cls := "java/lang/Object", name := "<init>", desc := "()V" } : Jvm.MethodName)).before a0 Z = true := hw _ (List.mem_of_getElem? (i := 16) rfl)
theorem tw_17 {Z : State} {a0 : Array Value} (hw : ∀ d ∈ tables_1, d.before a0 Z = true) : (Jvm.Cond.code ({ cls := "java/lang/Object", name := "<init>", desc := "()V" } : Jvm.MethodName) object_method_1_code (1 : Nat) (Option.none : Option Jvm.ClassFile.FieldType)).before a0 Z = true := hw _ (List.mem_of_getElem? (i := 17) rfl)
theorem tw_18 {Z : State} {a0 : Array Value} (hw : ∀ d ∈ tables_1, d.before a0 Z = true) : (Jvm.Cond.fieldLink "io/invocant/cli/Expression$Value" (7 : Nat) "io/invocant/cli/Expression$Value" "type" "Ljava/lang/Class;").before a0 Z = true := hw _ (List.mem_of_getElem? (i := 18) rfl)
theorem tw_19 {Z : State} {a0 : Array Value} (hw : ∀ d ∈ tables_1, d.before a0 Z = true) : (Jvm.Cond.laysFinal "io/invocant/cli/Expression$Value" "io/invocant/cli/Expression$Value" "type" "Ljava/lang/Class;").before a0 Z = true := hw _ (List.mem_of_getElem? (i := 19) rfl)
theorem tw_20 {Z : State} {a0 : Array Value} (hw : ∀ d ∈ tables_1, d.before a0 Z = true) : (Jvm.Cond.fieldLink "io/invocant/cli/Expression$Value" (13 : Nat) "io/invocant/cli/Expression$Value" "value" "Ljava/lang/Object;").before a0 Z = true := hw _ (List.mem_of_getElem? (i := 20) rfl)
theorem tw_21 {Z : State} {a0 : Array Value} (hw : ∀ d ∈ tables_1, d.before a0 Z = true) : (Jvm.Cond.laysFinal "io/invocant/cli/Expression$Value" "io/invocant/cli/Expression$Value" "value" "Ljava/lang/Object;").before a0 Z = true := hw _ (List.mem_of_getElem? (i := 21) rfl)
theorem tw_22 {Z : State} {a0 : Array Value} (hw : ∀ d ∈ tables_1, d.before a0 Z = true) : (Jvm.Cond.methodLink "io/invocant/cli/ValueOfPinLaw" (39 : Nat) ({ cls := "io/invocant/cli/Expression$Value", name := "value", desc := "()Ljava/lang/Object;" } : Jvm.MethodName)).before a0 Z = true := hw _ (List.mem_of_getElem? (i := 22) rfl)
theorem tw_23 {Z : State} {a0 : Array Value} (hw : ∀ d ∈ tables_1, d.before a0 Z = true) : (Jvm.Cond.declares ({ cls := "io/invocant/cli/Expression$Value", name := "value", desc := "()Ljava/lang/Object;" } : Jvm.MethodName)).before a0 Z = true := hw _ (List.mem_of_getElem? (i := 23) rfl)
theorem tw_24 {Z : State} {a0 : Array Value} (hw : ∀ d ∈ tables_1, d.before a0 Z = true) : (Jvm.Cond.instanceMethod ({ cls := "io/invocant/cli/Expression$Value", name := "value", desc := "()Ljava/lang/Object;" } : Jvm.MethodName)).before a0 Z = true := hw _ (List.mem_of_getElem? (i := 24) rfl)
theorem tw_25 {Z : State} {a0 : Array Value} (hw : ∀ d ∈ tables_1, d.before a0 Z = true) : (Jvm.Cond.selects "io/invocant/cli/Expression$Value" ({ cls := "io/invocant/cli/Expression$Value", name := "value", desc := "()Ljava/lang/Object;" } : Jvm.MethodName) ({ cls := "io/invocant/cli/Expression$Value", name := "value", desc := "()Ljava/lang/Object;" } : Jvm.MethodName)).before a0 Z = true := hw _ (List.mem_of_getElem? (i := 25) rfl)
theorem tw_26 {Z : State} {a0 : Array Value} (hw : ∀ d ∈ tables_1, d.before a0 Z = true) : (Jvm.Cond.code ({ cls := "io/invocant/cli/Expression$Value", name := "value", desc := "()Ljava/lang/Object;" } : Jvm.MethodName) prog_16_method_8_code (1 : Nat) (Option.some (Jvm.ClassFile.FieldType.object "java/lang/Object"))).before a0 Z = true := hw _ (List.mem_of_getElem? (i := 26) rfl)
theorem tw_27 {Z : State} {a0 : Array Value} (hw : ∀ d ∈ tables_1, d.before a0 Z = true) : (Jvm.Cond.methodLink "io/invocant/cli/ValueOfPinLaw" (43 : Nat) ({ cls := "io/invocant/cli/Expression$Value", name := "type", desc := "()Ljava/lang/Class;" } : Jvm.MethodName)).before a0 Z = true := hw _ (List.mem_of_getElem? (i := 27) rfl)
theorem tw_28 {Z : State} {a0 : Array Value} (hw : ∀ d ∈ tables_1, d.before a0 Z = true) : (Jvm.Cond.declares ({ cls := "io/invocant/cli/Expression$Value", name := "type", desc := "()Ljava/lang/Class;" } : Jvm.MethodName)).before a0 Z = true := hw _ (List.mem_of_getElem? (i := 28) rfl)
theorem tw_29 {Z : State} {a0 : Array Value} (hw : ∀ d ∈ tables_1, d.before a0 Z = true) : (Jvm.Cond.instanceMethod ({ cls := "io/invocant/cli/Expression$Value", name := "type", desc := "()Ljava/lang/Class;" } : Jvm.MethodName)).before a0 Z = true := hw _ (List.mem_of_getElem? (i := 29) rfl)
theorem tw_30 {Z : State} {a0 : Array Value} (hw : ∀ d ∈ tables_1, d.before a0 Z = true) : (Jvm.Cond.selects "io/invocant/cli/Expression$Value" ({ cls := "io/invocant/cli/Expression$Value", name := "type", desc := "()Ljava/lang/Class;" } : Jvm.MethodName) ({ cls := "io/invocant/cli/Expression$Value", name := "type", desc := "()Ljava/lang/Class;" } : Jvm.MethodName)).before a0 Z = true := hw _ (List.mem_of_getElem? (i := 30) rfl)
theorem tw_31 {Z : State} {a0 : Array Value} (hw : ∀ d ∈ tables_1, d.before a0 Z = true) : (Jvm.Cond.code ({ cls := "io/invocant/cli/Expression$Value", name := "type", desc := "()Ljava/lang/Class;" } : Jvm.MethodName) prog_16_method_7_code (1 : Nat) (Option.some (Jvm.ClassFile.FieldType.object "java/lang/Class"))).before a0 Z = true := hw _ (List.mem_of_getElem? (i := 31) rfl)
theorem tw_32 {Z : State} {a0 : Array Value} (hw : ∀ d ∈ tables_1, d.before a0 Z = true) : (Jvm.Cond.classLink "io/invocant/cli/ValueOfPinLaw" (24 : Nat) "java/util/ArrayList").before a0 Z = true := hw _ (List.mem_of_getElem? (i := 32) rfl)
theorem tw_33 {Z : State} {a0 : Array Value} (hw : ∀ d ∈ tables_1, d.before a0 Z = true) : (Jvm.Cond.instantiable "java/util/ArrayList" (3 : Nat)).before a0 Z = true := hw _ (List.mem_of_getElem? (i := 33) rfl)
theorem tw_34 {Z : State} {a0 : Array Value} (hw : ∀ d ∈ tables_1, d.before a0 Z = true) : (Jvm.Cond.initialized "java/util/ArrayList").before a0 Z = true := hw _ (List.mem_of_getElem? (i := 34) rfl)
theorem tw_35 {Z : State} {a0 : Array Value} (hw : ∀ d ∈ tables_1, d.before a0 Z = true) : (Jvm.Cond.methodLink "io/invocant/cli/ValueOfPinLaw" (26 : Nat) ({ cls := "java/util/ArrayList", name := "<init>", desc := "()V" } : Jvm.MethodName)).before a0 Z = true := hw _ (List.mem_of_getElem? (i := 35) rfl)
theorem tw_36 {Z : State} {a0 : Array Value} (hw : ∀ d ∈ tables_1, d.before a0 Z = true) : (Jvm.Cond.instanceMethod ({ cls := "java/util/ArrayList", name := "<init>", desc := "()V" } : Jvm.MethodName)).before a0 Z = true := hw _ (List.mem_of_getElem? (i := 36) rfl)
theorem tw_37 {Z : State} {a0 : Array Value} (hw : ∀ d ∈ tables_1, d.before a0 Z = true) : (Jvm.Cond.code ({ cls := "java/util/ArrayList", name := "<init>", desc := "()V" } : Jvm.MethodName) jdk_38_method_2_code (1 : Nat) (Option.none : Option Jvm.ClassFile.FieldType)).before a0 Z = true := hw _ (List.mem_of_getElem? (i := 37) rfl)
theorem tw_38 {Z : State} {a0 : Array Value} (hw : ∀ d ∈ tables_1, d.before a0 Z = true) : (Jvm.Cond.methodLink "java/util/ArrayList" (1 : Nat) ({ cls := "java/util/AbstractList", name := "<init>", desc := "()V" } : Jvm.MethodName)).before a0 Z = true := hw _ (List.mem_of_getElem? (i := 38) rfl)
theorem tw_39 {Z : State} {a0 : Array Value} (hw : ∀ d ∈ tables_1, d.before a0 Z = true) : (Jvm.Cond.instanceMethod ({ cls := "java/util/AbstractList", name := "<init>", desc := "()V" } : Jvm.MethodName)).before a0 Z = true := hw _ (List.mem_of_getElem? (i := 39) rfl)
theorem tw_42 {Z : State} {a0 : Array Value} (hw : ∀ d ∈ tables_1, d.before a0 Z = true) : (Jvm.Cond.initialized "java/util/AbstractList").before a0 Z = true := hw _ (List.mem_of_getElem? (i := 42) rfl)
theorem tw_43 {Z : State} {a0 : Array Value} (hw : ∀ d ∈ tables_1, d.before a0 Z = true) : (Jvm.Cond.code ({ cls := "java/util/AbstractList", name := "<init>", desc := "()V" } : Jvm.MethodName) jdk_39_method_1_code (1 : Nat) (Option.none : Option Jvm.ClassFile.FieldType)).before a0 Z = true := hw _ (List.mem_of_getElem? (i := 43) rfl)
theorem tw_44 {Z : State} {a0 : Array Value} (hw : ∀ d ∈ tables_1, d.before a0 Z = true) : (Jvm.Cond.methodLink "java/util/AbstractList" (1 : Nat) ({ cls := "java/util/AbstractCollection", name := "<init>", desc := "()V" } : Jvm.MethodName)).before a0 Z = true := hw _ (List.mem_of_getElem? (i := 44) rfl)
theorem tw_45 {Z : State} {a0 : Array Value} (hw : ∀ d ∈ tables_1, d.before a0 Z = true) : (Jvm.Cond.instanceMethod ({ cls := "java/util/AbstractCollection", name := "<init>", desc := "()V" } : Jvm.MethodName)).before a0 Z = true := hw _ (List.mem_of_getElem? (i := 45) rfl)
theorem tw_48 {Z : State} {a0 : Array Value} (hw : ∀ d ∈ tables_1, d.before a0 Z = true) : (Jvm.Cond.initialized "java/util/AbstractCollection").before a0 Z = true := hw _ (List.mem_of_getElem? (i := 48) rfl)
theorem tw_49 {Z : State} {a0 : Array Value} (hw : ∀ d ∈ tables_1, d.before a0 Z = true) : (Jvm.Cond.code ({ cls := "java/util/AbstractCollection", name := "<init>", desc := "()V" } : Jvm.MethodName) jdk_22_method_1_code (1 : Nat) (Option.none : Option Jvm.ClassFile.FieldType)).before a0 Z = true := hw _ (List.mem_of_getElem? (i := 49) rfl)
theorem tw_50 {Z : State} {a0 : Array Value} (hw : ∀ d ∈ tables_1, d.before a0 Z = true) : (Jvm.Cond.methodLink "java/util/AbstractCollection" (1 : Nat) ({ cls := "java/lang/Object", name := "<init>", desc := "()V" } : Jvm.MethodName)).before a0 Z = true := hw _ (List.mem_of_getElem? (i := 50) rfl)
theorem tw_51 {Z : State} {a0 : Array Value} (hw : ∀ d ∈ tables_1, d.before a0 Z = true) : (Jvm.Cond.fieldLink "java/util/AbstractList" (7 : Nat) "java/util/AbstractList" "modCount" "I").before a0 Z = true := hw _ (List.mem_of_getElem? (i := 51) rfl)
theorem tw_52 {Z : State} {a0 : Array Value} (hw : ∀ d ∈ tables_1, d.before a0 Z = true) : (Jvm.Cond.lays "java/util/ArrayList" "java/util/AbstractList" "modCount" "I").before a0 Z = true := hw _ (List.mem_of_getElem? (i := 52) rfl)
theorem tw_53 {Z : State} {a0 : Array Value} (hw : ∀ d ∈ tables_1, d.before a0 Z = true) : (Jvm.Cond.fieldLink "java/util/ArrayList" (39 : Nat) "java/util/ArrayList" "DEFAULTCAPACITY_EMPTY_ELEMENTDATA" "[Ljava/lang/Object;").before a0 Z = true := hw _ (List.mem_of_getElem? (i := 53) rfl)
theorem tw_54 {Z : State} {a0 : Array Value} (hw : ∀ d ∈ tables_1, d.before a0 Z = true) : (Jvm.Cond.fieldLink "java/util/ArrayList" (9 : Nat) "java/util/ArrayList" "elementData" "[Ljava/lang/Object;").before a0 Z = true := hw _ (List.mem_of_getElem? (i := 54) rfl)
theorem tw_55 {Z : State} {a0 : Array Value} (hw : ∀ d ∈ tables_1, d.before a0 Z = true) : (Jvm.Cond.lays "java/util/ArrayList" "java/util/ArrayList" "elementData" "[Ljava/lang/Object;").before a0 Z = true := hw _ (List.mem_of_getElem? (i := 55) rfl)
theorem tw_56 {Z : State} {a0 : Array Value} (hw : ∀ d ∈ tables_1, d.before a0 Z = true) : (Jvm.Cond.methodLink "io/invocant/cli/ValueOfPinLaw" (8 : Nat) ({ cls := "java/lang/Integer", name := "valueOf", desc := "(I)Ljava/lang/Integer;" } : Jvm.MethodName)).before a0 Z = true := hw _ (List.mem_of_getElem? (i := 56) rfl)
theorem tw_57 {Z : State} {a0 : Array Value} (hw : ∀ d ∈ tables_1, d.before a0 Z = true) : (Jvm.Cond.static ({ cls := "java/lang/Integer", name := "valueOf", desc := "(I)Ljava/lang/Integer;" } : Jvm.MethodName)).before a0 Z = true := hw _ (List.mem_of_getElem? (i := 57) rfl)
theorem tw_58 {Z : State} {a0 : Array Value} (hw : ∀ d ∈ tables_1, d.before a0 Z = true) : (Jvm.Cond.initialized "java/lang/Integer").before a0 Z = true := hw _ (List.mem_of_getElem? (i := 58) rfl)
theorem tw_59 {Z : State} {a0 : Array Value} (hw : ∀ d ∈ tables_1, d.before a0 Z = true) : (Jvm.Cond.code ({ cls := "java/lang/Integer", name := "valueOf", desc := "(I)Ljava/lang/Integer;" } : Jvm.MethodName) jdk_33_method_22_code (1 : Nat) (Option.some (Jvm.ClassFile.FieldType.object "java/lang/Integer"))).before a0 Z = true := hw _ (List.mem_of_getElem? (i := 59) rfl)
theorem tw_60 {Z : State} {a0 : Array Value} (hw : ∀ d ∈ tables_1, d.before a0 Z = true) : (Jvm.Cond.fieldLink "java/lang/Integer" (191 : Nat) "java/lang/Integer$IntegerCache" "high" "I").before a0 Z = true := hw _ (List.mem_of_getElem? (i := 60) rfl)
theorem tw_61 {Z : State} {a0 : Array Value} (hw : ∀ d ∈ tables_1, d.before a0 Z = true) : (Jvm.Cond.initialized "java/lang/Integer$IntegerCache").before a0 Z = true := hw _ (List.mem_of_getElem? (i := 61) rfl)
theorem tw_62 {Z : State} {a0 : Array Value} (hw : ∀ d ∈ tables_1, d.before a0 Z = true) : (Jvm.Cond.fieldLink "java/lang/Integer" (195 : Nat) "java/lang/Integer$IntegerCache" "cache" "[Ljava/lang/Integer;").before a0 Z = true := hw _ (List.mem_of_getElem? (i := 62) rfl)
theorem tw_63 {Z : State} {a0 : Array Value} (hw : ∀ d ∈ tables_1, d.before a0 Z = true) : (Jvm.Cond.methodLink "io/invocant/cli/ValueOfPinLaw" (27 : Nat) ({ cls := "java/util/ArrayList", name := "add", desc := "(Ljava/lang/Object;)Z" } : Jvm.MethodName)).before a0 Z = true := hw _ (List.mem_of_getElem? (i := 63) rfl)
theorem tw_64 {Z : State} {a0 : Array Value} (hw : ∀ d ∈ tables_1, d.before a0 Z = true) : (Jvm.Cond.declares ({ cls := "java/util/ArrayList", name := "add", desc := "(Ljava/lang/Object;)Z" } : Jvm.MethodName)).before a0 Z = true := hw _ (List.mem_of_getElem? (i := 64) rfl)
theorem tw_65 {Z : State} {a0 : Array Value} (hw : ∀ d ∈ tables_1, d.before a0 Z = true) : (Jvm.Cond.instanceMethod ({ cls := "java/util/ArrayList", name := "add", desc := "(Ljava/lang/Object;)Z" } : Jvm.MethodName)).before a0 Z = true := hw _ (List.mem_of_getElem? (i := 65) rfl)
theorem tw_66 {Z : State} {a0 : Array Value} (hw : ∀ d ∈ tables_1, d.before a0 Z = true) : (Jvm.Cond.selects "java/util/ArrayList" ({ cls := "java/util/ArrayList", name := "add", desc := "(Ljava/lang/Object;)Z" } : Jvm.MethodName) ({ cls := "java/util/ArrayList", name := "add", desc := "(Ljava/lang/Object;)Z" } : Jvm.MethodName)).before a0 Z = true := hw _ (List.mem_of_getElem? (i := 66) rfl)
theorem tw_67 {Z : State} {a0 : Array Value} (hw : ∀ d ∈ tables_1, d.before a0 Z = true) : (Jvm.Cond.code ({ cls := "java/util/ArrayList", name := "add", desc := "(Ljava/lang/Object;)Z" } : Jvm.MethodName) jdk_38_method_25_code (2 : Nat) (Option.some Jvm.ClassFile.FieldType.boolean)).before a0 Z = true := hw _ (List.mem_of_getElem? (i := 67) rfl)
theorem tw_68 {Z : State} {a0 : Array Value} (hw : ∀ d ∈ tables_1, d.before a0 Z = true) : (Jvm.Cond.fieldLink "java/util/ArrayList" (63 : Nat) "java/util/ArrayList" "modCount" "I").before a0 Z = true := hw _ (List.mem_of_getElem? (i := 68) rfl)
theorem tw_69 {Z : State} {a0 : Array Value} (hw : ∀ d ∈ tables_1, d.before a0 Z = true) : (Jvm.Cond.sameField "java/util/ArrayList" "java/util/AbstractList" "modCount" "I").before a0 Z = true := hw _ (List.mem_of_getElem? (i := 69) rfl)
theorem tw_70 {Z : State} {a0 : Array Value} (hw : ∀ d ∈ tables_1, d.before a0 Z = true) : (Jvm.Cond.fieldLink "java/util/ArrayList" (48 : Nat) "java/util/ArrayList" "size" "I").before a0 Z = true := hw _ (List.mem_of_getElem? (i := 70) rfl)
theorem tw_71 {Z : State} {a0 : Array Value} (hw : ∀ d ∈ tables_1, d.before a0 Z = true) : (Jvm.Cond.lays "java/util/ArrayList" "java/util/ArrayList" "size" "I").before a0 Z = true := hw _ (List.mem_of_getElem? (i := 71) rfl)
theorem tw_72 {Z : State} {a0 : Array Value} (hw : ∀ d ∈ tables_1, d.before a0 Z = true) : (Jvm.Cond.methodLink "java/util/ArrayList" (131 : Nat) ({ cls := "java/util/ArrayList", name := "add", desc := "(Ljava/lang/Object;[Ljava/lang/Object;I)V" } : Jvm.MethodName)).before a0 Z = true := hw _ (List.mem_of_getElem? (i := 72) rfl)
theorem tw_73 {Z : State} {a0 : Array Value} (hw : ∀ d ∈ tables_1, d.before a0 Z = true) : (Jvm.Cond.instanceMethod ({ cls := "java/util/ArrayList", name := "add", desc := "(Ljava/lang/Object;[Ljava/lang/Object;I)V" } : Jvm.MethodName)).before a0 Z = true := hw _ (List.mem_of_getElem? (i := 73) rfl)
theorem tw_74 {Z : State} {a0 : Array Value} (hw : ∀ d ∈ tables_1, d.before a0 Z = true) : (Jvm.Cond.privateMethod ({ cls := "java/util/ArrayList", name := "add", desc := "(Ljava/lang/Object;[Ljava/lang/Object;I)V" } : Jvm.MethodName)).before a0 Z = true := hw _ (List.mem_of_getElem? (i := 74) rfl)
theorem tw_75 {Z : State} {a0 : Array Value} (hw : ∀ d ∈ tables_1, d.before a0 Z = true) : (Jvm.Cond.selects "java/util/ArrayList" ({ cls := "java/util/ArrayList", name := "add", desc := "(Ljava/lang/Object;[Ljava/lang/Object;I)V" } : Jvm.MethodName) ({ cls := "java/util/ArrayList", name := "add", desc := "(Ljava/lang/Object;[Ljava/lang/Object;I)V" } : Jvm.MethodName)).before a0 Z = true := hw _ (List.mem_of_getElem? (i := 75) rfl)
theorem tw_76 {Z : State} {a0 : Array Value} (hw : ∀ d ∈ tables_1, d.before a0 Z = true) : (Jvm.Cond.code ({ cls := "java/util/ArrayList", name := "add", desc := "(Ljava/lang/Object;[Ljava/lang/Object;I)V" } : Jvm.MethodName) jdk_38_method_24_code (4 : Nat) (Option.none : Option Jvm.ClassFile.FieldType)).before a0 Z = true := hw _ (List.mem_of_getElem? (i := 76) rfl)
theorem tw_77 {Z : State} {a0 : Array Value} (hw : ∀ d ∈ tables_1, d.before a0 Z = true) : (Jvm.Cond.methodLink "java/util/ArrayList" (129 : Nat) ({ cls := "java/util/ArrayList", name := "grow", desc := "()[Ljava/lang/Object;" } : Jvm.MethodName)).before a0 Z = true := hw _ (List.mem_of_getElem? (i := 77) rfl)
theorem tw_78 {Z : State} {a0 : Array Value} (hw : ∀ d ∈ tables_1, d.before a0 Z = true) : (Jvm.Cond.instanceMethod ({ cls := "java/util/ArrayList", name := "grow", desc := "()[Ljava/lang/Object;" } : Jvm.MethodName)).before a0 Z = true := hw _ (List.mem_of_getElem? (i := 78) rfl)
theorem tw_79 {Z : State} {a0 : Array Value} (hw : ∀ d ∈ tables_1, d.before a0 Z = true) : (Jvm.Cond.privateMethod ({ cls := "java/util/ArrayList", name := "grow", desc := "()[Ljava/lang/Object;" } : Jvm.MethodName)).before a0 Z = true := hw _ (List.mem_of_getElem? (i := 79) rfl)
theorem tw_80 {Z : State} {a0 : Array Value} (hw : ∀ d ∈ tables_1, d.before a0 Z = true) : (Jvm.Cond.selects "java/util/ArrayList" ({ cls := "java/util/ArrayList", name := "grow", desc := "()[Ljava/lang/Object;" } : Jvm.MethodName) ({ cls := "java/util/ArrayList", name := "grow", desc := "()[Ljava/lang/Object;" } : Jvm.MethodName)).before a0 Z = true := hw _ (List.mem_of_getElem? (i := 80) rfl)
theorem tw_81 {Z : State} {a0 : Array Value} (hw : ∀ d ∈ tables_1, d.before a0 Z = true) : (Jvm.Cond.code ({ cls := "java/util/ArrayList", name := "grow", desc := "()[Ljava/lang/Object;" } : Jvm.MethodName) jdk_38_method_7_code (1 : Nat) (Option.some (Jvm.ClassFile.FieldType.array (Jvm.ClassFile.FieldType.object "java/lang/Object")))).before a0 Z = true := hw _ (List.mem_of_getElem? (i := 81) rfl)
theorem tw_82 {Z : State} {a0 : Array Value} (hw : ∀ d ∈ tables_1, d.before a0 Z = true) : (Jvm.Cond.methodLink "java/util/ArrayList" (69 : Nat) ({ cls := "java/util/ArrayList", name := "grow", desc := "(I)[Ljava/lang/Object;" } : Jvm.MethodName)).before a0 Z = true := hw _ (List.mem_of_getElem? (i := 82) rfl)
theorem tw_83 {Z : State} {a0 : Array Value} (hw : ∀ d ∈ tables_1, d.before a0 Z = true) : (Jvm.Cond.instanceMethod ({ cls := "java/util/ArrayList", name := "grow", desc := "(I)[Ljava/lang/Object;" } : Jvm.MethodName)).before a0 Z = true := hw _ (List.mem_of_getElem? (i := 83) rfl)
theorem tw_84 {Z : State} {a0 : Array Value} (hw : ∀ d ∈ tables_1, d.before a0 Z = true) : (Jvm.Cond.privateMethod ({ cls := "java/util/ArrayList", name := "grow", desc := "(I)[Ljava/lang/Object;" } : Jvm.MethodName)).before a0 Z = true := hw _ (List.mem_of_getElem? (i := 84) rfl)
theorem tw_85 {Z : State} {a0 : Array Value} (hw : ∀ d ∈ tables_1, d.before a0 Z = true) : (Jvm.Cond.selects "java/util/ArrayList" ({ cls := "java/util/ArrayList", name := "grow", desc := "(I)[Ljava/lang/Object;" } : Jvm.MethodName) ({ cls := "java/util/ArrayList", name := "grow", desc := "(I)[Ljava/lang/Object;" } : Jvm.MethodName)).before a0 Z = true := hw _ (List.mem_of_getElem? (i := 85) rfl)
theorem tw_86 {Z : State} {a0 : Array Value} (hw : ∀ d ∈ tables_1, d.before a0 Z = true) : (Jvm.Cond.code ({ cls := "java/util/ArrayList", name := "grow", desc := "(I)[Ljava/lang/Object;" } : Jvm.MethodName) jdk_38_method_6_code (4 : Nat) (Option.some (Jvm.ClassFile.FieldType.array (Jvm.ClassFile.FieldType.object "java/lang/Object")))).before a0 Z = true := hw _ (List.mem_of_getElem? (i := 86) rfl)
theorem tw_87 {Z : State} {a0 : Array Value} (hw : ∀ d ∈ tables_1, d.before a0 Z = true) : (Jvm.Cond.methodLink "java/util/ArrayList" (79 : Nat) ({ cls := "java/lang/Math", name := "max", desc := "(II)I" } : Jvm.MethodName)).before a0 Z = true := hw _ (List.mem_of_getElem? (i := 87) rfl)
theorem tw_88 {Z : State} {a0 : Array Value} (hw : ∀ d ∈ tables_1, d.before a0 Z = true) : (Jvm.Cond.static ({ cls := "java/lang/Math", name := "max", desc := "(II)I" } : Jvm.MethodName)).before a0 Z = true := hw _ (List.mem_of_getElem? (i := 88) rfl)
theorem tw_89 {Z : State} {a0 : Array Value} (hw : ∀ d ∈ tables_1, d.before a0 Z = true) : (Jvm.Cond.initialized "java/lang/Math").before a0 Z = true := hw _ (List.mem_of_getElem? (i := 89) rfl)
theorem tw_90 {Z : State} {a0 : Array Value} (hw : ∀ d ∈ tables_1, d.before a0 Z = true) : (Jvm.Cond.code ({ cls := "java/lang/Math", name := "max", desc := "(II)I" } : Jvm.MethodName) jdk_29_method_65_code (2 : Nat) (Option.some Jvm.ClassFile.FieldType.int)).before a0 Z = true := hw _ (List.mem_of_getElem? (i := 90) rfl)
theorem tw_91 {Z : State} {a0 : Array Value} (hw : ∀ d ∈ tables_1, d.before a0 Z = true) : (Jvm.Cond.classLink "java/util/ArrayList" (7 : Nat) "java/lang/Object").before a0 Z = true := hw _ (List.mem_of_getElem? (i := 91) rfl)
theorem tw_92 {Z : State} {a0 : Array Value} (hw : ∀ d ∈ tables_1, d.before a0 Z = true) : (Jvm.Cond.arrayOver (Jvm.ClassFile.FieldType.object "java/lang/Object")).before a0 Z = true := hw _ (List.mem_of_getElem? (i := 92) rfl)
theorem tw_93 {Z : State} {a0 : Array Value} (hw : ∀ d ∈ tables_1, d.before a0 Z = true) : (Jvm.Cond.castable "java/lang/Integer" "java/lang/Object").before a0 Z = true := hw _ (List.mem_of_getElem? (i := 93) rfl)
theorem tw_95 {Z : State} {a0 : Array Value} (hw : ∀ d ∈ tables_1, d.before a0 Z = true) : (Jvm.Cond.methodLink "io/invocant/cli/Expression$Value" (17 : Nat) ({ cls := "java/lang/Object", name := "getClass", desc := "()Ljava/lang/Class;" } : Jvm.MethodName)).before a0 Z = true := hw _ (List.mem_of_getElem? (i := 95) rfl)
theorem tw_96 {Z : State} {a0 : Array Value} (hw : ∀ d ∈ tables_1, d.before a0 Z = true) : (Jvm.Cond.declares ({ cls := "java/lang/Object", name := "getClass", desc := "()Ljava/lang/Class;" } : Jvm.MethodName)).before a0 Z = true := hw _ (List.mem_of_getElem? (i := 96) rfl)
theorem tw_97 {Z : State} {a0 : Array Value} (hw : ∀ d ∈ tables_1, d.before a0 Z = true) : (Jvm.Cond.instanceMethod ({ cls := "java/lang/Object", name := "getClass", desc := "()Ljava/lang/Class;" } : Jvm.MethodName)).before a0 Z = true := hw _ (List.mem_of_getElem? (i := 97) rfl)
theorem tw_98 {Z : State} {a0 : Array Value} (hw : ∀ d ∈ tables_1, d.before a0 Z = true) : (Jvm.Cond.selects "java/util/ArrayList" ({ cls := "java/lang/Object", name := "getClass", desc := "()Ljava/lang/Class;" } : Jvm.MethodName) ({ cls := "java/lang/Object", name := "getClass", desc := "()Ljava/lang/Class;" } : Jvm.MethodName)).before a0 Z = true := hw _ (List.mem_of_getElem? (i := 98) rfl)
theorem tw_99 {Z : State} {a0 : Array Value} (hw : ∀ d ∈ tables_1, d.before a0 Z = true) : (Jvm.Cond.native ({ cls := "java/lang/Object", name := "getClass", desc := "()Ljava/lang/Class;" } : Jvm.MethodName)).before a0 Z = true := hw _ (List.mem_of_getElem? (i := 99) rfl)
theorem tw_100 {Z : State} {a0 : Array Value} (hw : ∀ d ∈ tables_1, d.before a0 Z = true) : (Jvm.Cond.arrayClass Jvm.ClassFile.FieldType.char).before a0 Z = true := hw _ (List.mem_of_getElem? (i := 100) rfl)
theorem tw_101 {Z : State} {a0 : Array Value} (hw : ∀ d ∈ tables_1, d.before a0 Z = true) : (Jvm.Cond.classLink "io/invocant/cli/ValueOfPinLaw" (19 : Nat) "java/lang/String").before a0 Z = true := hw _ (List.mem_of_getElem? (i := 101) rfl)
theorem tw_102 {Z : State} {a0 : Array Value} (hw : ∀ d ∈ tables_1, d.before a0 Z = true) : (Jvm.Cond.instantiable "java/lang/String" (4 : Nat)).before a0 Z = true := hw _ (List.mem_of_getElem? (i := 102) rfl)
theorem tw_103 {Z : State} {a0 : Array Value} (hw : ∀ d ∈ tables_1, d.before a0 Z = true) : (Jvm.Cond.initialized "java/lang/String").before a0 Z = true := hw _ (List.mem_of_getElem? (i := 103) rfl)
theorem tw_104 {Z : State} {a0 : Array Value} (hw : ∀ d ∈ tables_1, d.before a0 Z = true) : (Jvm.Cond.methodLink "io/invocant/cli/ValueOfPinLaw" (21 : Nat) ({ cls := "java/lang/String", name := "<init>", desc := "([C)V" } : Jvm.MethodName)).before a0 Z = true := hw _ (List.mem_of_getElem? (i := 104) rfl)
theorem tw_105 {Z : State} {a0 : Array Value} (hw : ∀ d ∈ tables_1, d.before a0 Z = true) : (Jvm.Cond.instanceMethod ({ cls := "java/lang/String", name := "<init>", desc := "([C)V" } : Jvm.MethodName)).before a0 Z = true := hw _ (List.mem_of_getElem? (i := 105) rfl)
theorem tw_106 {Z : State} {a0 : Array Value} (hw : ∀ d ∈ tables_1, d.before a0 Z = true) : (Jvm.Cond.code ({ cls := "java/lang/String", name := "<init>", desc := "([C)V" } : Jvm.MethodName) jdk_42_method_3_code (2 : Nat) (Option.none : Option Jvm.ClassFile.FieldType)).before a0 Z = true := hw _ (List.mem_of_getElem? (i := 106) rfl)
theorem tw_107 {Z : State} {a0 : Array Value} (hw : ∀ d ∈ tables_1, d.before a0 Z = true) : (Jvm.Cond.methodLink "java/lang/String" (27 : Nat) ({ cls := "java/lang/String", name := "<init>", desc := "([CIILjava/lang/Void;)V" } : Jvm.MethodName)).before a0 Z = true := hw _ (List.mem_of_getElem? (i := 107) rfl)
theorem tw_108 {Z : State} {a0 : Array Value} (hw : ∀ d ∈ tables_1, d.before a0 Z = true) : (Jvm.Cond.instanceMethod ({ cls := "java/lang/String", name := "<init>", desc := "([CIILjava/lang/Void;)V" } : Jvm.MethodName)).before a0 Z = true := hw _ (List.mem_of_getElem? (i := 108) rfl)
theorem tw_110 {Z : State} {a0 : Array Value} (hw : ∀ d ∈ tables_1, d.before a0 Z = true) : (Jvm.Cond.code ({ cls := "java/lang/String", name := "<init>", desc := "([CIILjava/lang/Void;)V" } : Jvm.MethodName) jdk_42_method_149_code (6 : Nat) (Option.none : Option Jvm.ClassFile.FieldType)).before a0 Z = true := hw _ (List.mem_of_getElem? (i := 110) rfl)
theorem tw_111 {Z : State} {a0 : Array Value} (hw : ∀ d ∈ tables_1, d.before a0 Z = true) : (Jvm.Cond.methodLink "java/lang/String" (1 : Nat) ({ cls := "java/lang/Object", name := "<init>", desc := "()V" } : Jvm.MethodName)).before a0 Z = true := hw _ (List.mem_of_getElem? (i := 111) rfl)
theorem tw_112 {Z : State} {a0 : Array Value} (hw : ∀ d ∈ tables_1, d.before a0 Z = true) : (Jvm.Cond.fieldLink "java/lang/String" (38 : Nat) "java/lang/String" "COMPACT_STRINGS" "Z").before a0 Z = true := hw _ (List.mem_of_getElem? (i := 112) rfl)
theorem tw_113 {Z : State} {a0 : Array Value} (hw : ∀ d ∈ tables_1, d.before a0 Z = true) : (Jvm.Cond.methodLink "java/lang/String" (177 : Nat) ({ cls := "java/lang/StringUTF16", name := "compress", desc := "([CII)[B" } : Jvm.MethodName)).before a0 Z = true := hw _ (List.mem_of_getElem? (i := 113) rfl)
theorem tw_114 {Z : State} {a0 : Array Value} (hw : ∀ d ∈ tables_1, d.before a0 Z = true) : (Jvm.Cond.static ({ cls := "java/lang/StringUTF16", name := "compress", desc := "([CII)[B" } : Jvm.MethodName)).before a0 Z = true := hw _ (List.mem_of_getElem? (i := 114) rfl)
theorem tw_115 {Z : State} {a0 : Array Value} (hw : ∀ d ∈ tables_1, d.before a0 Z = true) : (Jvm.Cond.initialized "java/lang/StringUTF16").before a0 Z = true := hw _ (List.mem_of_getElem? (i := 115) rfl)
theorem tw_116 {Z : State} {a0 : Array Value} (hw : ∀ d ∈ tables_1, d.before a0 Z = true) : (Jvm.Cond.code ({ cls := "java/lang/StringUTF16", name := "compress", desc := "([CII)[B" } : Jvm.MethodName) jdk_52_method_16_code (6 : Nat) (Option.some (Jvm.ClassFile.FieldType.array Jvm.ClassFile.FieldType.byte))).before a0 Z = true := hw _ (List.mem_of_getElem? (i := 116) rfl)
theorem tw_117 {Z : State} {a0 : Array Value} (hw : ∀ d ∈ tables_1, d.before a0 Z = true) : (Jvm.Cond.arrayClass Jvm.ClassFile.FieldType.byte).before a0 Z = true := hw _ (List.mem_of_getElem? (i := 117) rfl)
theorem tw_118 {Z : State} {a0 : Array Value} (hw : ∀ d ∈ tables_1, d.before a0 Z = true) : (Jvm.Cond.methodLink "java/lang/StringUTF16" (115 : Nat) ({ cls := "java/lang/StringUTF16", name := "compress", desc := "([CI[BII)I" } : Jvm.MethodName)).before a0 Z = true := hw _ (List.mem_of_getElem? (i := 118) rfl)
theorem tw_119 {Z : State} {a0 : Array Value} (hw : ∀ d ∈ tables_1, d.before a0 Z = true) : (Jvm.Cond.static ({ cls := "java/lang/StringUTF16", name := "compress", desc := "([CI[BII)I" } : Jvm.MethodName)).before a0 Z = true := hw _ (List.mem_of_getElem? (i := 119) rfl)
theorem tw_120 {Z : State} {a0 : Array Value} (hw : ∀ d ∈ tables_1, d.before a0 Z = true) : (Jvm.Cond.code ({ cls := "java/lang/StringUTF16", name := "compress", desc := "([CI[BII)I" } : Jvm.MethodName) jdk_52_method_21_code (7 : Nat) (Option.some Jvm.ClassFile.FieldType.int)).before a0 Z = true := hw _ (List.mem_of_getElem? (i := 120) rfl)
theorem tw_121 {Z : State} {a0 : Array Value} (hw : ∀ d ∈ tables_1, d.before a0 Z = true) : (Jvm.Cond.methodLink "java/lang/String" (47 : Nat) ({ cls := "java/lang/StringUTF16", name := "coderFromArrayLen", desc := "([BI)B" } : Jvm.MethodName)).before a0 Z = true := hw _ (List.mem_of_getElem? (i := 121) rfl)
theorem tw_122 {Z : State} {a0 : Array Value} (hw : ∀ d ∈ tables_1, d.before a0 Z = true) : (Jvm.Cond.static ({ cls := "java/lang/StringUTF16", name := "coderFromArrayLen", desc := "([BI)B" } : Jvm.MethodName)).before a0 Z = true := hw _ (List.mem_of_getElem? (i := 122) rfl)
theorem tw_123 {Z : State} {a0 : Array Value} (hw : ∀ d ∈ tables_1, d.before a0 Z = true) : (Jvm.Cond.code ({ cls := "java/lang/StringUTF16", name := "coderFromArrayLen", desc := "([BI)B" } : Jvm.MethodName) jdk_52_method_15_code (2 : Nat) (Option.some Jvm.ClassFile.FieldType.byte)).before a0 Z = true := hw _ (List.mem_of_getElem? (i := 123) rfl)
theorem tw_124 {Z : State} {a0 : Array Value} (hw : ∀ d ∈ tables_1, d.before a0 Z = true) : (Jvm.Cond.fieldLink "java/lang/String" (15 : Nat) "java/lang/String" "coder" "B").before a0 Z = true := hw _ (List.mem_of_getElem? (i := 124) rfl)
theorem tw_125 {Z : State} {a0 : Array Value} (hw : ∀ d ∈ tables_1, d.before a0 Z = true) : (Jvm.Cond.laysFinal "java/lang/String" "java/lang/String" "coder" "B").before a0 Z = true := hw _ (List.mem_of_getElem? (i := 125) rfl)
theorem tw_126 {Z : State} {a0 : Array Value} (hw : ∀ d ∈ tables_1, d.before a0 Z = true) : (Jvm.Cond.fieldLink "java/lang/String" (9 : Nat) "java/lang/String" "value" "[B").before a0 Z = true := hw _ (List.mem_of_getElem? (i := 126) rfl)
theorem tw_127 {Z : State} {a0 : Array Value} (hw : ∀ d ∈ tables_1, d.before a0 Z = true) : (Jvm.Cond.laysFinal "java/lang/String" "java/lang/String" "value" "[B").before a0 Z = true := hw _ (List.mem_of_getElem? (i := 127) rfl)
theorem tw_128 {Z : State} {a0 : Array Value} (hw : ∀ d ∈ tables_1, d.before a0 Z = true) : (Jvm.Cond.selects "java/lang/String" ({ cls := "java/lang/Object", name := "getClass", desc := "()Ljava/lang/Class;" } : Jvm.MethodName) ({ cls := "java/lang/Object", name := "getClass", desc := "()Ljava/lang/Class;" } : Jvm.MethodName)).before a0 Z = true := hw _ (List.mem_of_getElem? (i := 128) rfl)
theorem tw_129 {Z : State} {a0 : Array Value} (hw : ∀ d ∈ tables_1, d.before a0 Z = true) : (Jvm.Cond.methodLink "io/invocant/cli/ValueOfPinLaw" (14 : Nat) ({ cls := "java/lang/Long", name := "valueOf", desc := "(J)Ljava/lang/Long;" } : Jvm.MethodName)).before a0 Z = true := hw _ (List.mem_of_getElem? (i := 129) rfl)
theorem tw_130 {Z : State} {a0 : Array Value} (hw : ∀ d ∈ tables_1, d.before a0 Z = true) : (Jvm.Cond.static ({ cls := "java/lang/Long", name := "valueOf", desc := "(J)Ljava/lang/Long;" } : Jvm.MethodName)).before a0 Z = true := hw _ (List.mem_of_getElem? (i := 130) rfl)
theorem tw_131 {Z : State} {a0 : Array Value} (hw : ∀ d ∈ tables_1, d.before a0 Z = true) : (Jvm.Cond.initialized "java/lang/Long").before a0 Z = true := hw _ (List.mem_of_getElem? (i := 131) rfl)
theorem tw_132 {Z : State} {a0 : Array Value} (hw : ∀ d ∈ tables_1, d.before a0 Z = true) : (Jvm.Cond.code ({ cls := "java/lang/Long", name := "valueOf", desc := "(J)Ljava/lang/Long;" } : Jvm.MethodName) jdk_35_method_24_code (3 : Nat) (Option.some (Jvm.ClassFile.FieldType.object "java/lang/Long"))).before a0 Z = true := hw _ (List.mem_of_getElem? (i := 132) rfl)
theorem tw_133 {Z : State} {a0 : Array Value} (hw : ∀ d ∈ tables_1, d.before a0 Z = true) : (Jvm.Cond.constantLong "java/lang/Long" (230 : Nat) (-128 : Int64)).before a0 Z = true := hw _ (List.mem_of_getElem? (i := 133) rfl)
theorem tw_134 {Z : State} {a0 : Array Value} (hw : ∀ d ∈ tables_1, d.before a0 Z = true) : (Jvm.Cond.classLink "java/lang/Long" (1 : Nat) "java/lang/Long").before a0 Z = true := hw _ (List.mem_of_getElem? (i := 134) rfl)
theorem tw_135 {Z : State} {a0 : Array Value} (hw : ∀ d ∈ tables_1, d.before a0 Z = true) : (Jvm.Cond.instantiable "java/lang/Long" (1 : Nat)).before a0 Z = true := hw _ (List.mem_of_getElem? (i := 135) rfl)
theorem tw_136 {Z : State} {a0 : Array Value} (hw : ∀ d ∈ tables_1, d.before a0 Z = true) : (Jvm.Cond.methodLink "java/lang/Long" (240 : Nat) ({ cls := "java/lang/Long", name := "<init>", desc := "(J)V" } : Jvm.MethodName)).before a0 Z = true := hw _ (List.mem_of_getElem? (i := 136) rfl)
theorem tw_137 {Z : State} {a0 : Array Value} (hw : ∀ d ∈ tables_1, d.before a0 Z = true) : (Jvm.Cond.instanceMethod ({ cls := "java/lang/Long", name := "<init>", desc := "(J)V" } : Jvm.MethodName)).before a0 Z = true := hw _ (List.mem_of_getElem? (i := 137) rfl)
theorem tw_139 {Z : State} {a0 : Array Value} (hw : ∀ d ∈ tables_1, d.before a0 Z = true) : (Jvm.Cond.code ({ cls := "java/lang/Long", name := "<init>", desc := "(J)V" } : Jvm.MethodName) jdk_35_method_26_code (3 : Nat) (Option.none : Option Jvm.ClassFile.FieldType)).before a0 Z = true := hw _ (List.mem_of_getElem? (i := 139) rfl)
theorem tw_140 {Z : State} {a0 : Array Value} (hw : ∀ d ∈ tables_1, d.before a0 Z = true) : (Jvm.Cond.methodLink "java/lang/Long" (270 : Nat) ({ cls := "java/lang/Number", name := "<init>", desc := "()V" } : Jvm.MethodName)).before a0 Z = true := hw _ (List.mem_of_getElem? (i := 140) rfl)
theorem tw_141 {Z : State} {a0 : Array Value} (hw : ∀ d ∈ tables_1, d.before a0 Z = true) : (Jvm.Cond.instanceMethod ({ cls := "java/lang/Number", name := "<init>", desc := "()V" } : Jvm.MethodName)).before a0 Z = true := hw _ (List.mem_of_getElem? (i := 141) rfl)
theorem tw_144 {Z : State} {a0 : Array Value} (hw : ∀ d ∈ tables_1, d.before a0 Z = true) : (Jvm.Cond.initialized "java/lang/Number").before a0 Z = true := hw _ (List.mem_of_getElem? (i := 144) rfl)
theorem tw_145 {Z : State} {a0 : Array Value} (hw : ∀ d ∈ tables_1, d.before a0 Z = true) : (Jvm.Cond.code ({ cls := "java/lang/Number", name := "<init>", desc := "()V" } : Jvm.MethodName) jdk_18_method_1_code (1 : Nat) (Option.none : Option Jvm.ClassFile.FieldType)).before a0 Z = true := hw _ (List.mem_of_getElem? (i := 145) rfl)
theorem tw_146 {Z : State} {a0 : Array Value} (hw : ∀ d ∈ tables_1, d.before a0 Z = true) : (Jvm.Cond.methodLink "java/lang/Number" (1 : Nat) ({ cls := "java/lang/Object", name := "<init>", desc := "()V" } : Jvm.MethodName)).before a0 Z = true := hw _ (List.mem_of_getElem? (i := 146) rfl)
theorem tw_147 {Z : State} {a0 : Array Value} (hw : ∀ d ∈ tables_1, d.before a0 Z = true) : (Jvm.Cond.fieldLink "java/lang/Long" (273 : Nat) "java/lang/Long" "value" "J").before a0 Z = true := hw _ (List.mem_of_getElem? (i := 147) rfl)
theorem tw_148 {Z : State} {a0 : Array Value} (hw : ∀ d ∈ tables_1, d.before a0 Z = true) : (Jvm.Cond.laysFinal "java/lang/Long" "java/lang/Long" "value" "J").before a0 Z = true := hw _ (List.mem_of_getElem? (i := 148) rfl)
theorem tw_149 {Z : State} {a0 : Array Value} (hw : ∀ d ∈ tables_1, d.before a0 Z = true) : (Jvm.Cond.classLink "io/invocant/cli/ValueOfPinLaw" (15 : Nat) "java/lang/Long").before a0 Z = true := hw _ (List.mem_of_getElem? (i := 149) rfl)
theorem tw_150 {Z : State} {a0 : Array Value} (hw : ∀ d ∈ tables_1, d.before a0 Z = true) : (Jvm.Cond.selects "java/lang/Long" ({ cls := "java/lang/Object", name := "getClass", desc := "()Ljava/lang/Class;" } : Jvm.MethodName) ({ cls := "java/lang/Object", name := "getClass", desc := "()Ljava/lang/Class;" } : Jvm.MethodName)).before a0 Z = true := hw _ (List.mem_of_getElem? (i := 150) rfl)
theorem tw_151 {Z : State} {a0 : Array Value} (hw : ∀ d ∈ tables_1, d.before a0 Z = true) : (Jvm.Cond.classLink "io/invocant/cli/ValueOfPinLaw" (9 : Nat) "java/lang/Integer").before a0 Z = true := hw _ (List.mem_of_getElem? (i := 151) rfl)
theorem tw_153 {Z : State} {a0 : Array Value} (hw : ∀ d ∈ tables_1, d.before a0 Z = true) : (Jvm.Cond.selects "java/lang/Integer" ({ cls := "java/lang/Object", name := "getClass", desc := "()Ljava/lang/Class;" } : Jvm.MethodName) ({ cls := "java/lang/Object", name := "getClass", desc := "()Ljava/lang/Class;" } : Jvm.MethodName)).before a0 Z = true := hw _ (List.mem_of_getElem? (i := 153) rfl)
theorem tw_154 {Z : State} {a0 : Array Value} (hw : ∀ d ∈ tables_1, d.before a0 Z = true) : (Jvm.Cond.arrayClass Jvm.ClassFile.FieldType.int).before a0 Z = true := hw _ (List.mem_of_getElem? (i := 154) rfl)
theorem tw_155 {Z : State} {a0 : Array Value} (hw : ∀ d ∈ tables_1, d.before a0 Z = true) : (Jvm.Cond.classLink "io/invocant/cli/ValueOfPinLaw" (31 : Nat) "[I").before a0 Z = true := hw _ (List.mem_of_getElem? (i := 155) rfl)
theorem tw_157 {Z : State} {a0 : Array Value} (hw : ∀ d ∈ tables_1, d.before a0 Z = true) : (Jvm.Cond.selects "[I" ({ cls := "java/lang/Object", name := "getClass", desc := "()Ljava/lang/Class;" } : Jvm.MethodName) ({ cls := "java/lang/Object", name := "getClass", desc := "()Ljava/lang/Class;" } : Jvm.MethodName)).before a0 Z = true := hw _ (List.mem_of_getElem? (i := 157) rfl)
theorem tw_158 {Z : State} {a0 : Array Value} (hw : ∀ d ∈ tables_1, d.before a0 Z = true) : (Jvm.Cond.classLink "java/lang/Integer" (1 : Nat) "java/lang/Integer").before a0 Z = true := hw _ (List.mem_of_getElem? (i := 158) rfl)
theorem tw_159 {Z : State} {a0 : Array Value} (hw : ∀ d ∈ tables_1, d.before a0 Z = true) : (Jvm.Cond.instantiable "java/lang/Integer" (1 : Nat)).before a0 Z = true := hw _ (List.mem_of_getElem? (i := 159) rfl)
theorem tw_160 {Z : State} {a0 : Array Value} (hw : ∀ d ∈ tables_1, d.before a0 Z = true) : (Jvm.Cond.methodLink "java/lang/Integer" (199 : Nat) ({ cls := "java/lang/Integer", name := "<init>", desc := "(I)V" } : Jvm.MethodName)).before a0 Z = true := hw _ (List.mem_of_getElem? (i := 160) rfl)
theorem tw_161 {Z : State} {a0 : Array Value} (hw : ∀ d ∈ tables_1, d.before a0 Z = true) : (Jvm.Cond.instanceMethod ({ cls := "java/lang/Integer", name := "<init>", desc := "(I)V" } : Jvm.MethodName)).before a0 Z = true := hw _ (List.mem_of_getElem? (i := 161) rfl)
theorem tw_162 {Z : State} {a0 : Array Value} (hw : ∀ d ∈ tables_1, d.before a0 Z = true) : (Jvm.Cond.code ({ cls := "java/lang/Integer", name := "<init>", desc := "(I)V" } : Jvm.MethodName) jdk_33_method_23_code (2 : Nat) (Option.none : Option Jvm.ClassFile.FieldType)).before a0 Z = true := hw _ (List.mem_of_getElem? (i := 162) rfl)
theorem tw_163 {Z : State} {a0 : Array Value} (hw : ∀ d ∈ tables_1, d.before a0 Z = true) : (Jvm.Cond.methodLink "java/lang/Integer" (202 : Nat) ({ cls := "java/lang/Number", name := "<init>", desc := "()V" } : Jvm.MethodName)).before a0 Z = true := hw _ (List.mem_of_getElem? (i := 163) rfl)
theorem tw_165 {Z : State} {a0 : Array Value} (hw : ∀ d ∈ tables_1, d.before a0 Z = true) : (Jvm.Cond.fieldLink "java/lang/Integer" (205 : Nat) "java/lang/Integer" "value" "I").before a0 Z = true := hw _ (List.mem_of_getElem? (i := 165) rfl)
theorem tw_166 {Z : State} {a0 : Array Value} (hw : ∀ d ∈ tables_1, d.before a0 Z = true) : (Jvm.Cond.laysFinal "java/lang/Integer" "java/lang/Integer" "value" "I").before a0 Z = true := hw _ (List.mem_of_getElem? (i := 166) rfl)
theorem tw_167 {Z : State} {a0 : Array Value} (hw : ∀ d ∈ tables_1, d.before a0 Z = true) : (Jvm.Cond.constantLong "java/lang/Long" (232 : Nat) (127 : Int64)).before a0 Z = true := hw _ (List.mem_of_getElem? (i := 167) rfl)
theorem tw_168 {Z : State} {a0 : Array Value} (hw : ∀ d ∈ tables_1, d.before a0 Z = true) : (Jvm.Cond.fieldLink "java/lang/Long" (234 : Nat) "java/lang/Long$LongCache" "cache" "[Ljava/lang/Long;").before a0 Z = true := hw _ (List.mem_of_getElem? (i := 168) rfl)
theorem tw_169 {Z : State} {a0 : Array Value} (hw : ∀ d ∈ tables_1, d.before a0 Z = true) : (Jvm.Cond.initialized "java/lang/Long$LongCache").before a0 Z = true := hw _ (List.mem_of_getElem? (i := 169) rfl)
theorem pd_0 : parseMethodDescriptor "()V" = some ⟨[], none⟩ := by decide +kernel
theorem pd_1 : parseMethodDescriptor "(II)I" = some ⟨[.int, .int], some .int⟩ := by decide +kernel
theorem pd_2 : parseMethodDescriptor "(I)[Ljava/lang/Object;" = some ⟨[.int], some (.array (.object "java/lang/Object"))⟩ := by decide +kernel
theorem pd_3 : parseMethodDescriptor "()[Ljava/lang/Object;" = some ⟨[], some (.array (.object "java/lang/Object"))⟩ := by decide +kernel
theorem pd_4 : parseMethodDescriptor "(Ljava/lang/Object;[Ljava/lang/Object;I)V" = some ⟨[(.object "java/lang/Object"), (.array (.object "java/lang/Object")), .int], none⟩ := by decide +kernel
theorem pd_5 : parseMethodDescriptor "(I)V" = some ⟨[.int], none⟩ := by decide +kernel
theorem pd_6 : parseMethodDescriptor "(J)V" = some ⟨[.long], none⟩ := by decide +kernel
theorem pd_7 : parseMethodDescriptor "([CI[BII)I" = some ⟨[(.array .char), .int, (.array .byte), .int, .int], some .int⟩ := by decide +kernel
theorem pd_8 : parseMethodDescriptor "([CII)[B" = some ⟨[(.array .char), .int, .int], some (.array .byte)⟩ := by decide +kernel
theorem pd_9 : parseMethodDescriptor "([BI)B" = some ⟨[(.array .byte), .int], some .byte⟩ := by decide +kernel
theorem pd_10 : parseMethodDescriptor "([CIILjava/lang/Void;)V" = some ⟨[(.array .char), .int, .int, (.object "java/lang/Void")], none⟩ := by decide +kernel
theorem pd_11 : parseMethodDescriptor "(Ljava/lang/Class;Ljava/lang/Object;)V" = some ⟨[(.object "java/lang/Class"), (.object "java/lang/Object")], none⟩ := by decide +kernel
theorem pd_12 : parseMethodDescriptor "(Ljava/lang/Object;)Lio/invocant/cli/Expression$Value;" = some ⟨[(.object "java/lang/Object")], some (.object "io/invocant/cli/Expression$Value")⟩ := by decide +kernel
theorem pd_13 : parseMethodDescriptor "()Ljava/lang/Object;" = some ⟨[], some (.object "java/lang/Object")⟩ := by decide +kernel
theorem pd_14 : parseMethodDescriptor "()Ljava/lang/Class;" = some ⟨[], some (.object "java/lang/Class")⟩ := by decide +kernel
theorem pd_15 : parseMethodDescriptor "(I)Ljava/lang/Integer;" = some ⟨[.int], some (.object "java/lang/Integer")⟩ := by decide +kernel
theorem pd_16 : parseMethodDescriptor "(J)Ljava/lang/Long;" = some ⟨[.long], some (.object "java/lang/Long")⟩ := by decide +kernel
theorem pd_17 : parseMethodDescriptor "([C)V" = some ⟨[(.array .char)], none⟩ := by decide +kernel
theorem pd_18 : parseMethodDescriptor "(Ljava/lang/Object;)Z" = some ⟨[(.object "java/lang/Object")], some .boolean⟩ := by decide +kernel
theorem bp_b_10 : (Int8.ofInt 10).toInt32 = (10 : Int32) := by decide +kernel
theorem bp_b_m128 : (Int8.ofInt (-128)).toInt32 = (-128 : Int32) := by decide +kernel
theorem bp_s_128 : (Int16.ofInt 128).toInt32 = (128 : Int32) := by decide +kernel
theorem bp_b_31 : (Int8.ofInt 31).toInt32 = (31 : Int32) := by decide +kernel
theorem bp_s_255 : (Int16.ofInt 255).toInt32 = (255 : Int32) := by decide +kernel
theorem bp_b_6 : (Int8.ofInt 6).toInt32 = (6 : Int32) := by decide +kernel
theorem own_cix {x : Int32} (h1 : ¬ x < (-128 : Int32)) (h2 : ¬ (127 : Int32) < x) : ¬ (x + (128 : Int32)) < 0 ∧ (x + (128 : Int32)).toNatClampNeg < 256 := by
  have e := c_iadd x 128
  have r := rng32 (x + 128)
  have e1 : (128 : Int32).toInt = 128 := rfl
  have e2 : (-128 : Int32).toInt = -128 := rfl
  have e3 : (127 : Int32).toInt = 127 := rfl
  have e4 : (0 : Int32).toInt = 0 := rfl
  rw [Int32.lt_iff_toInt_lt] at h1 h2
  rw [e1] at e
  refine ⟨fun q => ?_, ?_⟩
  · rw [Int32.lt_iff_toInt_lt] at q; omega
  · simp only [Int32.toNatClampNeg]; omega
theorem own_cin {cl : Cell} {x : Int32} (h1 : ¬ x < (-128 : Int32)) (h2 : ¬ (127 : Int32) < x) (S : cl.slots.size = 256) : ¬ ((x + (128 : Int32)) < 0 ∨ cl.slots.size ≤ (x + (128 : Int32)).toNatClampNeg) := fun q => by
  have := own_cix h1 h2
  rw [S] at q
  exact q.elim this.1 fun u => absurd this.2 (by omega)
theorem own_lx {y : Int64} (h1 : ¬ lcmpW y (-128 : Int64) < (0 : Int32)) (h2 : ¬ (0 : Int32) < lcmpW y (127 : Int64)) : ¬ y.toInt32 < (-128 : Int32) ∧ ¬ (127 : Int32) < y.toInt32 := by
  rw [lw_gt] at h2
  have h1' : ¬ y < (-128 : Int64) := fun q => h1 (by rw [lcW]; exact (lc_lt _ _).mpr q)
  rw [Int64.lt_iff_toInt_lt] at h1' h2
  have e1 : (-128 : Int64).toInt = -128 := rfl
  have e2 : (127 : Int64).toInt = 127 := rfl
  have e3 : (-128 : Int32).toInt = -128 := rfl
  have e4 : (127 : Int32).toInt = 127 := rfl
  have e := c_l2i y
  have r := rng32 y.toInt32
  refine ⟨fun q => ?_, fun q => ?_⟩ <;> rw [Int32.lt_iff_toInt_lt] at q <;> omega
theorem own_chr (c : Int32) : ¬ (255 : Int32) < (c &&& (255 : Int32)).toUInt32.toUInt16.toUInt32.toInt32 ∧ nar .char (c &&& (255 : Int32)).toUInt32.toUInt16.toUInt32.toInt32 = (c &&& (255 : Int32)).toUInt32.toUInt16.toUInt32.toInt32 := by
  have h := c_and c 255 (by decide)
  have e0 : (255 : Int32).toInt = 255 := rfl
  have k := c_i2c (c &&& 255)
  have k2 := c_i2c (c &&& (255 : Int32)).toUInt32.toUInt16.toUInt32.toInt32
  refine ⟨fun q => ?_, Int32.toInt_inj.mp ?_⟩
  · rw [Int32.lt_iff_toInt_lt] at q; omega
  · show (c &&& (255 : Int32)).toUInt32.toUInt16.toUInt32.toInt32.toUInt32.toUInt16.toUInt32.toInt32.toInt = _
    omega
theorem own_eqi {args : Array Value} {first s : State} {o : Option Outcome} {idx : List Nat} {t : Jvm.Term} {n : Int32} (h : (Jvm.Cond.eq t (.int n)).value args first o s idx = some true) : t.eval args first o idx s = some (.int n) := by
  simp only [Jvm.Cond.value, Jvm.Term.eval] at h
  cases ht : t.eval args first o idx s with
  | none => simp [ht] at h
  | some x => cases x <;> simp [ht] at h ⊢; exact h
theorem own_len {args : Array Value} {first s : State} {o : Option Outcome} {idx : List Nat} {t : Jvm.Term} {v : Value} (h : (Jvm.Term.length t).eval args first o idx s = some v) : ∃ a cell, t.eval args first o idx s = some (.ref a) ∧ s.arrayAt? a = some cell ∧ cell.slots.size < 2 ^ 31 ∧ v = .int cell.slots.size.toInt32 := by
  obtain ⟨a, cell, h1, h2, h3⟩ := Term.length_spec h
  refine ⟨a, cell, h1, h2, ?_, h3⟩
  simp [Jvm.Term.eval, h1, h2] at h
  exact h.1
theorem own_emp {s : State} {args : Array Value} {t : Jvm.Term} (hf : Fit s) (ha : (Jvm.Cond.arrayOf t (.object "java/lang/Object")).before args s = true) (hl : (Jvm.Cond.eq (.length t) (.int 0)).before args s = true) : ∃ a k, t.eval args s none [] s = some (.ref a) ∧ Arv s s.heap a k (.object "java/lang/Object") (0 : Int32) [] .null := by
  obtain ⟨a, ea⟩ := arr_v (Cond.before_iff.mp ha)
  obtain ⟨cl, A⟩ := Arr.start ea (Cond.before_iff.mp ha)
  obtain ⟨a', cl', l1, l2, l3, l4⟩ := own_len (own_eqi (Cond.before_iff.mp hl))
  cases ea.symm.trans l1
  cases A.1.symm.trans (State.arrayAt?_spec l2).1
  exact ⟨a, cl.cls, ea, Arv.start hf A l3 (Value.int.inj l4).symm (by decide) rfl trivial⟩
theorem own_cac {s : State} {args : Array Value} {t : Jvm.Term} {K : String} {B : Jvm.Cond} (ha : (Jvm.Cond.arrayOf t (.object K)).before args s = true) (hl : (Jvm.Cond.eq (.length t) (.int 256)).before args s = true) (ht : ∀ i a, t.eval args s none [] s = some (.ref a) → t.eval args s none [i] s = some (.ref a)) (hall : (Jvm.Cond.all t (.and (.exactly (.elem t (.index 0)) K) B)).before args s = true) : ∃ a, t.eval args s none [] s = some (.ref a) ∧ own_Cac s s.heap a K := by
  obtain ⟨a, ea⟩ := arr_v (Cond.before_iff.mp ha)
  obtain ⟨cl, A⟩ := Arr.start ea (Cond.before_iff.mp ha)
  obtain ⟨a', cl', l1, l2, l3, l4⟩ := own_len (own_eqi (Cond.before_iff.mp hl))
  cases ea.symm.trans l1
  have hc := State.arrayAt?_spec l2
  cases A.1.symm.trans hc.1
  have e0 : cl.slots.size = 256 := by
    have q := Value.int.inj l4
    have q2 := len_toInt l3
    rw [← q] at q2
    have : (256 : Int32).toInt = 256 := rfl
    omega
  refine ⟨a, ea, cl, A, e0, fun i hi => ?_⟩
  have q := Cond.all_elim ea l2 (Cond.before_iff.mp hall) i (by rw [e0]; exact hi)
  obtain ⟨q1, -⟩ := and_e q
  obtain ⟨y, ey⟩ := exa_v q1
  have E := exa_at ey q1
  have hin : (Int32.ofNat i).toNatClampNeg = i := by
    have : (Int32.ofNat i).toInt = i := Int32.toInt_ofNat_of_lt (by omega)
    simp only [Int32.toNatClampNeg, this]; omega
  have hn : ¬ Int32.ofNat i < 0 := fun u => by
    have : (Int32.ofNat i).toInt = i := Int32.toInt_ofNat_of_lt (by omega)
    rw [Int32.lt_iff_toInt_lt, this] at u
    have : (0 : Int32).toInt = 0 := rfl
    omega
  have hj : (Jvm.Term.index 0).eval args s none [i] s = some (.int (Int32.ofNat i)) := by
    have := idx_at (args := args) (first := s) (s := s) (o := none) hn
    rwa [hin] at this
  have et := ht i a ea
  rw [elem_f et hj l2 hn, hin] at ey
  exact ⟨y, ey, E⟩
theorem f3_0 : Dec jdk_30_method_1_code 0 (.aload_n 0) 1 1 := ⟨by decide +kernel, rfl⟩
theorem f3_1 : Dec jdk_30_method_1_code 1 (.invokespecial 1) 3 4 := ⟨by decide +kernel, rfl⟩
theorem f3_4 : Dec jdk_30_method_1_code 4 (.return_) 1 5 := ⟨by decide +kernel, rfl⟩
theorem pn_3 : plainFor (⟨"java/lang/Record", "<init>", "()V"⟩ : MethodName) = true := plainFor_of_name (show plainName "java/lang/Record" = true by first | (simp [plainName, overriddenIn]; done) | decide +kernel)
theorem ef_3 (m : MethodId) (a : Addr) : entryFrame m #[(.ref a)] 1 = mkF m 0 #[.val (.ref a)] [] := by first | (simp [entryFrame, mkF, argsToLocals, Value.category]; done) | rfl
def Q3 (Z : State) (a : Addr) (h0 : Heap) (n0 : Nat) (v9 : Option Value) (h9 : Heap) (L9 : List Loc) : Prop := v9 = none ∧ Fr n0 L9 ∧ h9 = h0
set_option maxRecDepth 65536 in
set_option maxHeartbeats 40000000 in
theorem rm3 (l : Launch) (Z : State) (a0 : Array Value) (hw : ∀ d ∈ tables_1, d.before a0 Z = true) (ws : List Jvm.Cond) (a : Addr) (h0 : Heap) (n0 : Nat) (Z0 : n0 ≤ h0.size) :
    MetFree l (⟨"java/lang/Record", "<init>", "()V"⟩ : MethodName) (head1 (Jvm.Cond.code (⟨"java/lang/Record", "<init>", "()V"⟩ : MethodName) jdk_30_method_1_code 1 none :: ws) ({ frames := 1, cells := 0, slots := 0, locals := 12 } : Room)) (fun A9 U9 => A9 = #[(.ref a)] ∧ Z.Warmed39 U9.vm ∧ U9.heap = h0) (fun _ _ _ _ _ => True) (fun _ U9 o9 V9 => ∃ v9 L9, o9 = .returned v9 ∧ (Q3 Z a h0 n0) v9 V9.heap L9 ∧ FrameEnd U9 o9 V9 L9 ({ frames := 1, cells := 0, slots := 0, locals := 12 } : Room).cells ({ frames := 1, cells := 0, slots := 0, locals := 12 } : Room).slots) := by
  refine met_of (Q := (Q3 Z a h0 n0)) pn_3 ?_
  intro p e s m below meth c T0 C X0 e0
  have N0 := Fr.nil n0
  refine Go.cast (ef_3 m a) ?_
  refine waloadN C X0 f3_0 rfl rfl ?_
  refine winitO C X0 (tw_15 hw) (tw_16 hw) (tw_17 hw) e0 f3_1 rfl (by decide) (W := 0) (Nat.le_of_eq rfl) (by decide) ?_
  intro T1 X1 e1
  refine wret C X1 f3_4 rfl (by decide) (by decide) ?_
  rw [e1]
  exact ⟨rfl, N0, rfl⟩
theorem f9_0 : Dec jdk_22_method_1_code 0 (.aload_n 0) 1 1 := ⟨by decide +kernel, rfl⟩
theorem f9_1 : Dec jdk_22_method_1_code 1 (.invokespecial 1) 3 4 := ⟨by decide +kernel, rfl⟩
theorem f9_4 : Dec jdk_22_method_1_code 4 (.return_) 1 5 := ⟨by decide +kernel, rfl⟩
theorem pn_9 : plainFor (⟨"java/util/AbstractCollection", "<init>", "()V"⟩ : MethodName) = true := plainFor_of_name (show plainName "java/util/AbstractCollection" = true by first | (simp [plainName, overriddenIn]; done) | decide +kernel)
theorem ef_9 (m : MethodId) (a : Addr) : entryFrame m #[(.ref a)] 1 = mkF m 0 #[.val (.ref a)] [] := by first | (simp [entryFrame, mkF, argsToLocals, Value.category]; done) | rfl
def Q9 (Z : State) (a : Addr) (h0 : Heap) (n0 : Nat) (v9 : Option Value) (h9 : Heap) (L9 : List Loc) : Prop := v9 = none ∧ Fr n0 L9 ∧ h9 = h0
set_option maxRecDepth 65536 in
set_option maxHeartbeats 40000000 in
theorem rm9 (l : Launch) (Z : State) (a0 : Array Value) (hw : ∀ d ∈ tables_1, d.before a0 Z = true) (ws : List Jvm.Cond) (a : Addr) (h0 : Heap) (n0 : Nat) (Z0 : n0 ≤ h0.size) :
    MetFree l (⟨"java/util/AbstractCollection", "<init>", "()V"⟩ : MethodName) (head1 (Jvm.Cond.code (⟨"java/util/AbstractCollection", "<init>", "()V"⟩ : MethodName) jdk_22_method_1_code 1 none :: ws) ({ frames := 1, cells := 0, slots := 0, locals := 12 } : Room)) (fun A9 U9 => A9 = #[(.ref a)] ∧ Z.Warmed39 U9.vm ∧ U9.heap = h0) (fun _ _ _ _ _ => True) (fun _ U9 o9 V9 => ∃ v9 L9, o9 = .returned v9 ∧ (Q9 Z a h0 n0) v9 V9.heap L9 ∧ FrameEnd U9 o9 V9 L9 ({ frames := 1, cells := 0, slots := 0, locals := 12 } : Room).cells ({ frames := 1, cells := 0, slots := 0, locals := 12 } : Room).slots) := by
  refine met_of (Q := (Q9 Z a h0 n0)) pn_9 ?_
  intro p e s m below meth c T0 C X0 e0
  have N0 := Fr.nil n0
  refine Go.cast (ef_9 m a) ?_
  refine waloadN C X0 f9_0 rfl rfl ?_
  refine winitO C X0 (tw_50 hw) (tw_16 hw) (tw_17 hw) e0 f9_1 rfl (by decide) (W := 0) (Nat.le_of_eq rfl) (by decide) ?_
  intro T1 X1 e1
  refine wret C X1 f9_4 rfl (by decide) (by decide) ?_
  rw [e1]
  exact ⟨rfl, N0, rfl⟩
theorem f23_0 : Dec jdk_18_method_1_code 0 (.aload_n 0) 1 1 := ⟨by decide +kernel, rfl⟩
theorem f23_1 : Dec jdk_18_method_1_code 1 (.invokespecial 1) 3 4 := ⟨by decide +kernel, rfl⟩
theorem f23_4 : Dec jdk_18_method_1_code 4 (.return_) 1 5 := ⟨by decide +kernel, rfl⟩
theorem pn_23 : plainFor (⟨"java/lang/Number", "<init>", "()V"⟩ : MethodName) = true := plainFor_of_name (show plainName "java/lang/Number" = true by first | (simp [plainName, overriddenIn]; done) | decide +kernel)
theorem ef_23 (m : MethodId) (a : Addr) : entryFrame m #[(.ref a)] 1 = mkF m 0 #[.val (.ref a)] [] := by first | (simp [entryFrame, mkF, argsToLocals, Value.category]; done) | rfl
def Q23 (Z : State) (a : Addr) (h0 : Heap) (n0 : Nat) (v9 : Option Value) (h9 : Heap) (L9 : List Loc) : Prop := v9 = none ∧ Fr n0 L9 ∧ h9 = h0
set_option maxRecDepth 65536 in
set_option maxHeartbeats 40000000 in
theorem rm23 (l : Launch) (Z : State) (a0 : Array Value) (hw : ∀ d ∈ tables_1, d.before a0 Z = true) (ws : List Jvm.Cond) (a : Addr) (h0 : Heap) (n0 : Nat) (Z0 : n0 ≤ h0.size) :
    MetFree l (⟨"java/lang/Number", "<init>", "()V"⟩ : MethodName) (head1 (Jvm.Cond.code (⟨"java/lang/Number", "<init>", "()V"⟩ : MethodName) jdk_18_method_1_code 1 none :: ws) ({ frames := 1, cells := 0, slots := 0, locals := 12 } : Room)) (fun A9 U9 => A9 = #[(.ref a)] ∧ Z.Warmed39 U9.vm ∧ U9.heap = h0) (fun _ _ _ _ _ => True) (fun _ U9 o9 V9 => ∃ v9 L9, o9 = .returned v9 ∧ (Q23 Z a h0 n0) v9 V9.heap L9 ∧ FrameEnd U9 o9 V9 L9 ({ frames := 1, cells := 0, slots := 0, locals := 12 } : Room).cells ({ frames := 1, cells := 0, slots := 0, locals := 12 } : Room).slots) := by
  refine met_of (Q := (Q23 Z a h0 n0)) pn_23 ?_
  intro p e s m below meth c T0 C X0 e0
  have N0 := Fr.nil n0
  refine Go.cast (ef_23 m a) ?_
  refine waloadN C X0 f23_0 rfl rfl ?_
  refine winitO C X0 (tw_146 hw) (tw_16 hw) (tw_17 hw) e0 f23_1 rfl (by decide) (W := 0) (Nat.le_of_eq rfl) (by decide) ?_
  intro T1 X1 e1
  refine wret C X1 f23_4 rfl (by decide) (by decide) ?_
  rw [e1]
  exact ⟨rfl, N0, rfl⟩
theorem f8_0 : Dec jdk_39_method_1_code 0 (.aload_n 0) 1 1 := ⟨by decide +kernel, rfl⟩
theorem f8_1 : Dec jdk_39_method_1_code 1 (.invokespecial 1) 3 4 := ⟨by decide +kernel, rfl⟩
theorem f8_4 : Dec jdk_39_method_1_code 4 (.aload_n 0) 1 5 := ⟨by decide +kernel, rfl⟩
theorem f8_5 : Dec jdk_39_method_1_code 5 (.iconst 0) 1 6 := ⟨by decide +kernel, rfl⟩
theorem f8_6 : Dec jdk_39_method_1_code 6 (.putfield 7) 3 9 := ⟨by decide +kernel, rfl⟩
theorem f8_9 : Dec jdk_39_method_1_code 9 (.return_) 1 10 := ⟨by decide +kernel, rfl⟩
theorem pn_8 : plainFor (⟨"java/util/AbstractList", "<init>", "()V"⟩ : MethodName) = true := plainFor_of_name (show plainName "java/util/AbstractList" = true by first | (simp [plainName, overriddenIn]; done) | decide +kernel)
theorem ef_8 (m : MethodId) (li : Addr) : entryFrame m #[(.ref li)] 1 = mkF m 0 #[.val (.ref li)] [] := by first | (simp [entryFrame, mkF, argsToLocals, Value.category]; done) | rfl
def Q8 (Z : State) (li : Addr) (h0 : Heap) (n0 : Nat) (v9 : Option Value) (h9 : Heap) (L9 : List Loc) : Prop := v9 = none ∧ Fr n0 L9 ∧ Keep h0 h9 [li] ∧ Fld Z h9 li "java/util/AbstractList" "modCount" "I" (.int (0 : Int32)) ∧ Fld Z h9 li "java/util/ArrayList" "elementData" "[Ljava/lang/Object;" .null ∧ Fld Z h9 li "java/util/ArrayList" "size" "I" (.int (0 : Int32))
set_option maxRecDepth 65536 in
set_option maxHeartbeats 40000000 in
theorem rm8 (l : Launch) (Z : State) (a0 : Array Value) (hw : ∀ d ∈ tables_1, d.before a0 Z = true) (ws : List Jvm.Cond) (li : Addr) (h0 : Heap) (n0 : Nat) (Z0 : n0 ≤ h0.size) (Exa_0 : Exa Z h0 li "java/util/ArrayList") (Fld_1 : Fld Z h0 li "java/util/AbstractList" "modCount" "I" (.int (0 : Int32))) (Fld_2 : Fld Z h0 li "java/util/ArrayList" "elementData" "[Ljava/lang/Object;" .null) (Fld_3 : Fld Z h0 li "java/util/ArrayList" "size" "I" (.int (0 : Int32))) (ge_4 : n0 ≤ li) :
    MetFree l (⟨"java/util/AbstractList", "<init>", "()V"⟩ : MethodName) (head1 (Jvm.Cond.code (⟨"java/util/AbstractList", "<init>", "()V"⟩ : MethodName) jdk_39_method_1_code 1 none :: ws) ({ frames := 2, cells := 0, slots := 0, locals := 24 } : Room)) (fun A9 U9 => A9 = #[(.ref li)] ∧ Z.Warmed39 U9.vm ∧ U9.heap = h0) (fun _ _ _ _ _ => True) (fun _ U9 o9 V9 => ∃ v9 L9, o9 = .returned v9 ∧ (Q8 Z li h0 n0) v9 V9.heap L9 ∧ FrameEnd U9 o9 V9 L9 ({ frames := 2, cells := 0, slots := 0, locals := 24 } : Room).cells ({ frames := 2, cells := 0, slots := 0, locals := 24 } : Room).slots) := by
  refine met_of (Q := (Q8 Z li h0 n0)) pn_8 ?_
  intro p e s m below meth c T0 C X0 e0
  have N0 := Fr.nil n0
  refine Go.cast (ef_8 m li) ?_
  refine waloadN C X0 f8_0 rfl rfl ?_
  refine wspecial C X0 (y := (⟨"java/util/AbstractCollection", "<init>", "()V"⟩ : MethodName)) rfl (tw_44 hw) (tw_45 hw) (tw_49 hw) (tw_48 hw) rfl (by decide) (rm9 l Z a0 hw [] li h0 n0 Z0) e0 f8_1 (a := li) (argsL := []) (rest := []) rfl rfl (lenOf pd_0 rfl) rfl (W := 0) (Nat.le_of_eq rfl) (by decide) (by decide) (by decide) (by decide) ?_
  intro v1 T1 L1 X1 q1
  obtain ⟨rfl, Nq1, eq1⟩ := q1
  have N1 := Fr.app N0 Nq1
  show Go p e below s _ _ _ T1 (mkF m 4 #[.val (.ref li)] [])
  refine waloadN C X1 f8_4 rfl rfl ?_
  refine wiconst C X1 f8_5 (0 : Int32) rfl ?_
  refine wput C X1 (host := "") (Or.inl (tw_51 hw)) Via.refl eq1 Fld_1 Exa_0 (Or.inl (tw_52 hw)) (tw_33 hw) (ty := .int) (by decide) rfl rfl f8_6 ?_
  intro T2 h2 X2 e2 W2
  have Fw2 := Fld_1.same W2
  have N2 := Fr.snoc X2 N1 ge_4
  refine wret C X2 f8_9 rfl (by decide) (by decide) ?_
  rw [e2]
  have q3 := ((Keep.refl h0 [li]).wr W2 (Or.inl (List.mem_of_getElem? (i := 0) rfl)))
  have q4 := (Fld_2.other W2 (Or.inr (slot_ne (Or.inl (tw_55 hw)) (Or.inl (tw_52 hw)) (by decide) (t := (.array (.object "java/lang/Object"))) (t' := .int) (by decide) (by decide))))
  have q5 := (Fld_3.other W2 (Or.inr (slot_ne (Or.inl (tw_71 hw)) (Or.inl (tw_52 hw)) (by decide) (t := .int) (t' := .int) (by decide) (by decide))))
  exact ⟨rfl, N2, q3, Fw2, q4, q5⟩
theorem f7_0 : Dec jdk_38_method_2_code 0 (.aload_n 0) 1 1 := ⟨by decide +kernel, rfl⟩
theorem f7_1 : Dec jdk_38_method_2_code 1 (.invokespecial 1) 3 4 := ⟨by decide +kernel, rfl⟩
theorem f7_4 : Dec jdk_38_method_2_code 4 (.aload_n 0) 1 5 := ⟨by decide +kernel, rfl⟩
theorem f7_5 : Dec jdk_38_method_2_code 5 (.getstatic 39) 3 8 := ⟨by decide +kernel, rfl⟩
theorem f7_8 : Dec jdk_38_method_2_code 8 (.putfield 9) 3 11 := ⟨by decide +kernel, rfl⟩
theorem f7_11 : Dec jdk_38_method_2_code 11 (.return_) 1 12 := ⟨by decide +kernel, rfl⟩
theorem pn_7 : plainFor (⟨"java/util/ArrayList", "<init>", "()V"⟩ : MethodName) = true := plainFor_of_name (show plainName "java/util/ArrayList" = true by first | (simp [plainName, overriddenIn]; done) | decide +kernel)
theorem ef_7 (m : MethodId) (li : Addr) : entryFrame m #[(.ref li)] 1 = mkF m 0 #[.val (.ref li)] [] := by first | (simp [entryFrame, mkF, argsToLocals, Value.category]; done) | rfl
def Q7 (Z : State) (li : Addr) (de : Addr) (h0 : Heap) (n0 : Nat) (v9 : Option Value) (h9 : Heap) (L9 : List Loc) : Prop := v9 = none ∧ Fr n0 L9 ∧ Keep h0 h9 [li] ∧ Fld Z h9 li "java/util/AbstractList" "modCount" "I" (.int (0 : Int32)) ∧ Fld Z h9 li "java/util/ArrayList" "elementData" "[Ljava/lang/Object;" (.ref de) ∧ Fld Z h9 li "java/util/ArrayList" "size" "I" (.int (0 : Int32))
set_option maxRecDepth 65536 in
set_option maxHeartbeats 40000000 in
theorem rm7 (l : Launch) (Z : State) (a0 : Array Value) (hw : ∀ d ∈ tables_1, d.before a0 Z = true) (ws : List Jvm.Cond) (li : Addr) (de : Addr) (h0 : Heap) (n0 : Nat) (Z0 : n0 ≤ h0.size) (Exa_0 : Exa Z h0 li "java/util/ArrayList") (Fld_1 : Fld Z h0 li "java/util/AbstractList" "modCount" "I" (.int (0 : Int32))) (Fld_2 : Fld Z h0 li "java/util/ArrayList" "elementData" "[Ljava/lang/Object;" .null) (Fld_3 : Fld Z h0 li "java/util/ArrayList" "size" "I" (.int (0 : Int32))) (Sta_4 : Sta Z h0 "java/util/ArrayList" "DEFAULTCAPACITY_EMPTY_ELEMENTDATA" "[Ljava/lang/Object;" (.ref de)) (ge_5 : n0 ≤ li) :
    MetFree l (⟨"java/util/ArrayList", "<init>", "()V"⟩ : MethodName) (head1 (Jvm.Cond.code (⟨"java/util/ArrayList", "<init>", "()V"⟩ : MethodName) jdk_38_method_2_code 1 none :: ws) ({ frames := 3, cells := 0, slots := 0, locals := 36 } : Room)) (fun A9 U9 => A9 = #[(.ref li)] ∧ Z.Warmed39 U9.vm ∧ U9.heap = h0) (fun _ _ _ _ _ => True) (fun _ U9 o9 V9 => ∃ v9 L9, o9 = .returned v9 ∧ (Q7 Z li de h0 n0) v9 V9.heap L9 ∧ FrameEnd U9 o9 V9 L9 ({ frames := 3, cells := 0, slots := 0, locals := 36 } : Room).cells ({ frames := 3, cells := 0, slots := 0, locals := 36 } : Room).slots) := by
  refine met_of (Q := (Q7 Z li de h0 n0)) pn_7 ?_
  intro p e s m below meth c T0 C X0 e0
  have N0 := Fr.nil n0
  refine Go.cast (ef_7 m li) ?_
  refine waloadN C X0 f7_0 rfl rfl ?_
  refine wspecial C X0 (y := (⟨"java/util/AbstractList", "<init>", "()V"⟩ : MethodName)) rfl (tw_38 hw) (tw_39 hw) (tw_43 hw) (tw_42 hw) rfl (by decide) (rm8 l Z a0 hw [] li h0 n0 Z0 Exa_0 Fld_1 Fld_2 Fld_3 ge_5) e0 f7_1 (a := li) (argsL := []) (rest := []) rfl rfl (lenOf pd_0 rfl) rfl (W := 0) (Nat.le_of_eq rfl) (by decide) (by decide) (by decide) (by decide) ?_
  intro v1 T1 L1 X1 q1
  obtain ⟨rfl, Nq1, K1, G1_0, G1_1, G1_2⟩ := q1
  have Sk1_0 := own_sta_keep Sta_4 K1 (allS (own_ns_exa Exa_0) all0)
  have N1 := Fr.app N0 Nq1
  show Go p e below s _ _ _ T1 (mkF m 4 #[.val (.ref li)] [])
  refine waloadN C X1 f7_4 rfl rfl ?_
  refine wgets C X1 (host := "") (Or.inl (tw_53 hw)) Via.refl rfl Sk1_0 f7_5 ?_
  intro T2 X2 e2
  refine wput C X2 (host := "") (Or.inl (tw_54 hw)) Via.refl e2 G1_1 (Exa_0.keep K1) (Or.inl (tw_55 hw)) (tw_33 hw) (ty := (.array (.object "java/lang/Object"))) (by decide) rfl rfl f7_8 ?_
  intro T3 h3 X3 e3 W3
  have Fw3 := G1_1.same W3
  have N3 := Fr.snoc X3 N1 ge_5
  refine wret C X3 f7_11 rfl (by decide) (by decide) ?_
  rw [e3]
  have q4 := (((Keep.refl h0 [li]).trans K1 (allS (Or.inl (List.mem_of_getElem? (i := 0) rfl)) all0)).wr W3 (Or.inl (List.mem_of_getElem? (i := 0) rfl)))
  have q5 := (G1_0.other W3 (Or.inr (slot_ne (Or.inl (tw_52 hw)) (Or.inl (tw_55 hw)) (by decide) (t := .int) (t' := (.array (.object "java/lang/Object"))) (by decide) (by decide))))
  have q6 := (G1_2.other W3 (Or.inr (slot_ne (Or.inl (tw_71 hw)) (Or.inl (tw_55 hw)) (by decide) (t := .int) (t' := (.array (.object "java/lang/Object"))) (by decide) (by decide))))
  exact ⟨rfl, N3, q4, q5, Fw3, q6⟩
theorem f15_0 : Dec jdk_29_method_65_code 0 (.iload_n 0) 1 1 := ⟨by decide +kernel, rfl⟩
theorem f15_1 : Dec jdk_29_method_65_code 1 (.iload_n 1) 1 2 := ⟨by decide +kernel, rfl⟩
theorem f15_2 : DecJ jdk_29_method_65_code 2 (.if_icmp .lt 7) 7 9 5 := ⟨by decide +kernel, by decide, by decide, rfl⟩
theorem f15_5 : Dec jdk_29_method_65_code 5 (.iload_n 0) 1 6 := ⟨by decide +kernel, rfl⟩
theorem f15_6 : DecJ jdk_29_method_65_code 6 (.goto 4) 4 10 9 := ⟨by decide +kernel, by decide, by decide, rfl⟩
theorem f15_10 : Dec jdk_29_method_65_code 10 (.ireturn) 1 11 := ⟨by decide +kernel, rfl⟩
theorem pn_15 : plainFor (⟨"java/lang/Math", "max", "(II)I"⟩ : MethodName) = true := Jvm.Free.JP.mathPlain rfl (by decide +kernel)
theorem ef_15 (m : MethodId)  : entryFrame m #[(.int (10 : Int32)), (.int (1 : Int32))] 2 = mkF m 0 #[.val (.int (10 : Int32)), .val (.int (1 : Int32))] [] := by first | (simp [entryFrame, mkF, argsToLocals, Value.category]; done) | rfl
def Q15 (Z : State)  (h0 : Heap) (n0 : Nat) (v9 : Option Value) (h9 : Heap) (L9 : List Loc) : Prop := v9 = some (.int (10 : Int32)) ∧ Fr n0 L9 ∧ h9 = h0
set_option maxRecDepth 65536 in
set_option maxHeartbeats 40000000 in
theorem rm15 (l : Launch) (Z : State) (a0 : Array Value) (hw : ∀ d ∈ tables_1, d.before a0 Z = true) (ws : List Jvm.Cond)  (h0 : Heap) (n0 : Nat) (Z0 : n0 ≤ h0.size) :
    MetFree l (⟨"java/lang/Math", "max", "(II)I"⟩ : MethodName) (head1 (Jvm.Cond.code (⟨"java/lang/Math", "max", "(II)I"⟩ : MethodName) jdk_29_method_65_code 2 (some .int) :: ws) ({ frames := 0, cells := 0, slots := 0, locals := 0 } : Room)) (fun A9 U9 => A9 = #[(.int (10 : Int32)), (.int (1 : Int32))] ∧ Z.Warmed39 U9.vm ∧ U9.heap = h0) (fun _ _ _ _ _ => True) (fun _ U9 o9 V9 => ∃ v9 L9, o9 = .returned v9 ∧ (Q15 Z  h0 n0) v9 V9.heap L9 ∧ FrameEnd U9 o9 V9 L9 ({ frames := 0, cells := 0, slots := 0, locals := 0 } : Room).cells ({ frames := 0, cells := 0, slots := 0, locals := 0 } : Room).slots) := by
  refine met_of (Q := (Q15 Z  h0 n0)) pn_15 ?_
  intro p e s m below meth c T0 C X0 e0
  have N0 := Fr.nil n0
  refine Go.cast (ef_15 m) ?_
  refine wiloadN C X0 f15_0 rfl ?_
  refine wiloadN C X0 f15_1 rfl ?_
  refine wicmp_lt C X0 f15_2 (fun q => absurd q (by decide : ¬ ((10 : Int32) < (1 : Int32)))) ?_
  intro _
  refine wiloadN C X0 f15_5 rfl ?_
  refine wgoto C X0 f15_6 ?_
  refine wiret C X0 f15_10 rfl (by decide) (by decide) ?_
  rw [e0]
  exact ⟨rfl, N0, rfl⟩
theorem f14_0 : Dec jdk_38_method_6_code 0 (.aload_n 0) 1 1 := ⟨by decide +kernel, rfl⟩
theorem f14_1 : Dec jdk_38_method_6_code 1 (.getfield 9) 3 4 := ⟨by decide +kernel, rfl⟩
theorem f14_4 : Dec jdk_38_method_6_code 4 (.arraylength) 1 5 := ⟨by decide +kernel, rfl⟩
theorem f14_5 : Dec jdk_38_method_6_code 5 (.istore_n 2) 1 6 := ⟨by decide +kernel, rfl⟩
theorem f14_6 : Dec jdk_38_method_6_code 6 (.iload_n 2) 1 7 := ⟨by decide +kernel, rfl⟩
theorem f14_7 : DecJ jdk_38_method_6_code 7 (.ifCond .gt 13) 13 20 10 := ⟨by decide +kernel, by decide, by decide, rfl⟩
theorem f14_10 : Dec jdk_38_method_6_code 10 (.aload_n 0) 1 11 := ⟨by decide +kernel, rfl⟩
theorem f14_11 : Dec jdk_38_method_6_code 11 (.getfield 9) 3 14 := ⟨by decide +kernel, rfl⟩
theorem f14_14 : Dec jdk_38_method_6_code 14 (.getstatic 39) 3 17 := ⟨by decide +kernel, rfl⟩
theorem f14_17 : DecJ jdk_38_method_6_code 17 (.if_acmp .eq 28) 28 45 20 := ⟨by decide +kernel, by decide, by decide, rfl⟩
theorem f14_45 : Dec jdk_38_method_6_code 45 (.aload_n 0) 1 46 := ⟨by decide +kernel, rfl⟩
theorem f14_46 : Dec jdk_38_method_6_code 46 (.bipush 10) 2 48 := ⟨by decide +kernel, rfl⟩
theorem f14_48 : Dec jdk_38_method_6_code 48 (.iload_n 1) 1 49 := ⟨by decide +kernel, rfl⟩
theorem f14_49 : Dec jdk_38_method_6_code 49 (.invokestatic 79) 3 52 := ⟨by decide +kernel, rfl⟩
theorem f14_52 : Dec jdk_38_method_6_code 52 (.anewarray 7) 3 55 := ⟨by decide +kernel, rfl⟩
theorem f14_55 : Dec jdk_38_method_6_code 55 (.dup_x1) 1 56 := ⟨by decide +kernel, rfl⟩
theorem f14_56 : Dec jdk_38_method_6_code 56 (.putfield 9) 3 59 := ⟨by decide +kernel, rfl⟩
theorem f14_59 : Dec jdk_38_method_6_code 59 (.areturn) 1 60 := ⟨by decide +kernel, rfl⟩
theorem pn_14 : plainFor (⟨"java/util/ArrayList", "grow", "(I)[Ljava/lang/Object;"⟩ : MethodName) = true := plainFor_of_name (show plainName "java/util/ArrayList" = true by first | (simp [plainName, overriddenIn]; done) | decide +kernel)
theorem ef_14 (m : MethodId) (li : Addr) : entryFrame m #[(.ref li), (.int (1 : Int32))] 4 = mkF m 0 #[.val (.ref li), .val (.int (1 : Int32)), .unset, .unset] [] := by first | (simp [entryFrame, mkF, argsToLocals, Value.category]; done) | rfl
def Q14 (Z : State) (li : Addr) (de : Addr) (kd : ClassId) (h0 : Heap) (n0 : Nat) (v9 : Option Value) (h9 : Heap) (L9 : List Loc) : Prop := ∃ (b9 : Addr), ∃ (k9 : ClassId), v9 = some (.ref b9) ∧ Fr n0 L9 ∧ Keep h0 h9 [li] ∧ Fld Z h9 li "java/util/AbstractList" "modCount" "I" (.int (1 : Int32)) ∧ Fld Z h9 li "java/util/ArrayList" "elementData" "[Ljava/lang/Object;" (.ref b9) ∧ Fld Z h9 li "java/util/ArrayList" "size" "I" (.int (0 : Int32)) ∧ h0.size ≤ b9 ∧ Arv Z h9 b9 k9 (.object "java/lang/Object") (10 : Int32) [.null, .null, .null, .null, .null, .null, .null, .null, .null, .null] .null ∧ Ovr Z k9 "java/lang/Object"
set_option maxRecDepth 65536 in
set_option maxHeartbeats 40000000 in
theorem rm14 (l : Launch) (Z : State) (a0 : Array Value) (hw : ∀ d ∈ tables_1, d.before a0 Z = true) (ws : List Jvm.Cond) (li : Addr) (de : Addr) (kd : ClassId) (h0 : Heap) (n0 : Nat) (Z0 : n0 ≤ h0.size) (Exa_0 : Exa Z h0 li "java/util/ArrayList") (Fld_1 : Fld Z h0 li "java/util/AbstractList" "modCount" "I" (.int (1 : Int32))) (Fld_2 : Fld Z h0 li "java/util/ArrayList" "elementData" "[Ljava/lang/Object;" (.ref de)) (Fld_3 : Fld Z h0 li "java/util/ArrayList" "size" "I" (.int (0 : Int32))) (Sta_4 : Sta Z h0 "java/util/ArrayList" "DEFAULTCAPACITY_EMPTY_ELEMENTDATA" "[Ljava/lang/Object;" (.ref de)) (Arv_5 : Arv Z h0 de kd (.object "java/lang/Object") (0 : Int32) [] .null) (ge_6 : n0 ≤ li) (ne_7 : de ≠ li) :
    MetFree l (⟨"java/util/ArrayList", "grow", "(I)[Ljava/lang/Object;"⟩ : MethodName) (head1 (Jvm.Cond.code (⟨"java/util/ArrayList", "grow", "(I)[Ljava/lang/Object;"⟩ : MethodName) jdk_38_method_6_code 4 (some (.array (.object "java/lang/Object"))) :: ws) ({ frames := 1, cells := 1, slots := 10, locals := 14 } : Room)) (fun A9 U9 => A9 = #[(.ref li), (.int (1 : Int32))] ∧ Z.Warmed39 U9.vm ∧ U9.heap = h0) (fun _ _ _ _ _ => True) (fun _ U9 o9 V9 => ∃ v9 L9, o9 = .returned v9 ∧ (Q14 Z li de kd h0 n0) v9 V9.heap L9 ∧ FrameEnd U9 o9 V9 L9 ({ frames := 1, cells := 1, slots := 10, locals := 14 } : Room).cells ({ frames := 1, cells := 1, slots := 10, locals := 14 } : Room).slots) := by
  refine met_of (Q := (Q14 Z li de kd h0 n0)) pn_14 ?_
  intro p e s m below meth c T0 C X0 e0
  have N0 := Fr.nil n0
  refine Go.cast (ef_14 m li) ?_
  refine waloadN C X0 f14_0 rfl rfl ?_
  refine wget C X0 (host := "") (Or.inl (tw_54 hw)) Via.refl e0 Fld_2 f14_1 ?_
  intro T1 X1 e1
  refine walen C X1 e1 Arv_5 f14_4 ?_
  refine wistoreN C X1 f14_5 #[.val (.ref li), .val (.int (1 : Int32)), .val (.int (0 : Int32)), .unset] rfl ?_
  refine wiloadN C X1 f14_6 rfl ?_
  refine wif_gt C X1 f14_7 (fun q => absurd q (by decide : ¬ ((0 : Int32) < (0 : Int32)))) ?_
  intro _
  refine waloadN C X1 f14_10 rfl rfl ?_
  refine wget C X1 (host := "") (Or.inl (tw_54 hw)) Via.refl e1 Fld_2 f14_11 ?_
  intro T2 X2 e2
  refine wgets C X2 (host := "") (Or.inl (tw_53 hw)) Via.refl e2 Sta_4 f14_14 ?_
  intro T3 X3 e3
  refine wacmp_eq C X3 rfl rfl f14_17 ?_ (fun q => absurd rfl q)
  intro _
  refine waloadN C X3 f14_45 rfl rfl ?_
  refine wbipush C X3 f14_46 (10 : Int32) bp_b_10 ?_
  refine wiloadN C X3 f14_48 rfl ?_
  refine wstatic C X3 (y := (⟨"java/lang/Math", "max", "(II)I"⟩ : MethodName)) (tw_87 hw) (tw_88 hw) (tw_89 hw) (tw_90 hw) (by decide) (rm15 l Z a0 hw []  h0 n0 Z0) e3 f14_49 (argsL := [(.int (10 : Int32)), (.int (1 : Int32))]) (rest := [(.ref li)]) rfl rfl (lenOf pd_1 rfl) rfl (W := 1) (Nat.le_of_eq rfl) (by decide) (by decide) (by decide) (by decide) ?_
  intro v4 T4 L4 X4 q4
  obtain ⟨rfl, Nq4, eq4⟩ := q4
  have N4 := Fr.app N0 Nq4
  show Go p e below s _ _ _ T4 (mkF m 52 #[.val (.ref li), .val (.int (1 : Int32)), .val (.int (0 : Int32)), .unset] [(.int (10 : Int32)), (.ref li)])
  refine wanew C X4 (ad := "[Ljava/lang/Object;") (tw_91 hw) (tw_92 hw) (by decide) eq4 f14_52 (by decide) (cap := 10) (by decide) (by decide) (by decide) (by decide) ?_
  intro T5 h5 b5 k5 g5 X5 e5 E5 V5 Ea5 O5
  have sz5 : h0.size ≤ b5 := Nat.le_trans (Nat.le_refl h0.size) (Nat.le_of_eq g5.symm)
  have Vp5 : Arv Z h5 b5 k5 (.object "java/lang/Object") (10 : Int32) [.null, .null, .null, .null, .null, .null, .null, .null, .null, .null] .null := Arv.pad V5 (pad_rep [] .null 10)
  refine wdupX1 C X5 f14_55 rfl rfl ?_
  refine wput C X5 (host := "") (Or.inl (tw_54 hw)) Via.refl e5 (Fld_2.ext E5) (Exa_0.ext E5) (Or.inl (tw_55 hw)) (tw_33 hw) (ty := (.array (.object "java/lang/Object"))) (by decide) rfl rfl f14_56 ?_
  intro T6 h6 X6 e6 W6
  have Fw6 := (Fld_2.ext E5).same W6
  have N6 := Fr.snoc X6 N4 ge_6
  refine waret C X6 f14_59 rfl rfl rfl rfl (by decide) (by decide) ?_
  rw [e6]
  have q7 := (((Keep.refl h0 [li]).ext E5).wr W6 (Or.inl (List.mem_of_getElem? (i := 0) rfl)))
  have q8 := ((Fld_1.ext E5).other W6 (Or.inr (slot_ne (Or.inl (tw_52 hw)) (Or.inl (tw_55 hw)) (by decide) (t := .int) (t' := (.array (.object "java/lang/Object"))) (by decide) (by decide))))
  have q9 := ((Fld_3.ext E5).other W6 (Or.inr (slot_ne (Or.inl (tw_71 hw)) (Or.inl (tw_55 hw)) (by decide) (t := .int) (t' := (.array (.object "java/lang/Object"))) (by decide) (by decide))))
  have ne10 : li ≠ b5 := (Nat.ne_of_lt (Nat.lt_of_lt_of_le Exa_0.lt (Nat.le_of_eq g5.symm)))
  exact ⟨b5, k5, rfl, N6, q7, q8, Fw6, q9, sz5, (Vp5.other W6 (Ne.symm ne10)), O5⟩
theorem f13_0 : Dec jdk_38_method_7_code 0 (.aload_n 0) 1 1 := ⟨by decide +kernel, rfl⟩
theorem f13_1 : Dec jdk_38_method_7_code 1 (.aload_n 0) 1 2 := ⟨by decide +kernel, rfl⟩
theorem f13_2 : Dec jdk_38_method_7_code 2 (.getfield 48) 3 5 := ⟨by decide +kernel, rfl⟩
theorem f13_5 : Dec jdk_38_method_7_code 5 (.iconst 1) 1 6 := ⟨by decide +kernel, rfl⟩
theorem f13_6 : Dec jdk_38_method_7_code 6 (.iadd) 1 7 := ⟨by decide +kernel, rfl⟩
theorem f13_7 : Dec jdk_38_method_7_code 7 (.invokevirtual 69) 3 10 := ⟨by decide +kernel, rfl⟩
theorem f13_10 : Dec jdk_38_method_7_code 10 (.areturn) 1 11 := ⟨by decide +kernel, rfl⟩
theorem pn_13 : plainFor (⟨"java/util/ArrayList", "grow", "()[Ljava/lang/Object;"⟩ : MethodName) = true := plainFor_of_name (show plainName "java/util/ArrayList" = true by first | (simp [plainName, overriddenIn]; done) | decide +kernel)
theorem ef_13 (m : MethodId) (li : Addr) : entryFrame m #[(.ref li)] 1 = mkF m 0 #[.val (.ref li)] [] := by first | (simp [entryFrame, mkF, argsToLocals, Value.category]; done) | rfl
def Q13 (Z : State) (li : Addr) (de : Addr) (kd : ClassId) (h0 : Heap) (n0 : Nat) (v9 : Option Value) (h9 : Heap) (L9 : List Loc) : Prop := ∃ (b9 : Addr), ∃ (k9 : ClassId), v9 = some (.ref b9) ∧ Fr n0 L9 ∧ Keep h0 h9 [li] ∧ Fld Z h9 li "java/util/AbstractList" "modCount" "I" (.int (1 : Int32)) ∧ Fld Z h9 li "java/util/ArrayList" "elementData" "[Ljava/lang/Object;" (.ref b9) ∧ Fld Z h9 li "java/util/ArrayList" "size" "I" (.int (0 : Int32)) ∧ h0.size ≤ b9 ∧ Arv Z h9 b9 k9 (.object "java/lang/Object") (10 : Int32) [.null, .null, .null, .null, .null, .null, .null, .null, .null, .null] .null ∧ Ovr Z k9 "java/lang/Object"
set_option maxRecDepth 65536 in
set_option maxHeartbeats 40000000 in
theorem rm13 (l : Launch) (Z : State) (a0 : Array Value) (hw : ∀ d ∈ tables_1, d.before a0 Z = true) (ws : List Jvm.Cond) (li : Addr) (de : Addr) (kd : ClassId) (h0 : Heap) (n0 : Nat) (Z0 : n0 ≤ h0.size) (Exa_0 : Exa Z h0 li "java/util/ArrayList") (Fld_1 : Fld Z h0 li "java/util/AbstractList" "modCount" "I" (.int (1 : Int32))) (Fld_2 : Fld Z h0 li "java/util/ArrayList" "elementData" "[Ljava/lang/Object;" (.ref de)) (Fld_3 : Fld Z h0 li "java/util/ArrayList" "size" "I" (.int (0 : Int32))) (Sta_4 : Sta Z h0 "java/util/ArrayList" "DEFAULTCAPACITY_EMPTY_ELEMENTDATA" "[Ljava/lang/Object;" (.ref de)) (Arv_5 : Arv Z h0 de kd (.object "java/lang/Object") (0 : Int32) [] .null) (ge_6 : n0 ≤ li) (ne_7 : de ≠ li) :
    MetFree l (⟨"java/util/ArrayList", "grow", "()[Ljava/lang/Object;"⟩ : MethodName) (head1 (Jvm.Cond.code (⟨"java/util/ArrayList", "grow", "()[Ljava/lang/Object;"⟩ : MethodName) jdk_38_method_7_code 1 (some (.array (.object "java/lang/Object"))) :: ws) ({ frames := 2, cells := 1, slots := 10, locals := 29 } : Room)) (fun A9 U9 => A9 = #[(.ref li)] ∧ Z.Warmed39 U9.vm ∧ U9.heap = h0) (fun _ _ _ _ _ => True) (fun _ U9 o9 V9 => ∃ v9 L9, o9 = .returned v9 ∧ (Q13 Z li de kd h0 n0) v9 V9.heap L9 ∧ FrameEnd U9 o9 V9 L9 ({ frames := 2, cells := 1, slots := 10, locals := 29 } : Room).cells ({ frames := 2, cells := 1, slots := 10, locals := 29 } : Room).slots) := by
  refine met_of (Q := (Q13 Z li de kd h0 n0)) pn_13 ?_
  intro p e s m below meth c T0 C X0 e0
  have N0 := Fr.nil n0
  refine Go.cast (ef_13 m li) ?_
  refine waloadN C X0 f13_0 rfl rfl ?_
  refine waloadN C X0 f13_1 rfl rfl ?_
  refine wget C X0 (host := "") (Or.inl (tw_70 hw)) Via.refl e0 Fld_3 f13_2 ?_
  intro T1 X1 e1
  refine wiconst C X1 f13_5 (1 : Int32) rfl ?_
  refine wiadd C X1 f13_6 ?_
  refine own_foldI (z := (1 : Int32)) (by decide) ?_
  refine wprivate C X1 (y := (⟨"java/util/ArrayList", "grow", "(I)[Ljava/lang/Object;"⟩ : MethodName)) (tw_82 hw) (tw_83 hw) (tw_85 hw) (tw_84 hw) (tw_86 hw) (tw_34 hw) (by decide) (rm14 l Z a0 hw [] li de kd h0 n0 Z0 Exa_0 Fld_1 Fld_2 Fld_3 Sta_4 Arv_5 ge_6 ne_7) e1 (a := li) Exa_0 f13_7 (argsL := [(.int (1 : Int32))]) (rest := []) rfl rfl (lenOf pd_2 rfl) rfl (W := 0) (Nat.le_of_eq rfl) (by decide) (by decide) (by decide) (by decide) ?_
  intro v2 T2 L2 X2 q2
  obtain ⟨b9_2, k9_2, rfl, Nq2, K2, G2_0, G2_1, G2_2, G2_3, G2_4, G2_5⟩ := q2
  have Sk2_0 := own_sta_keep Sta_4 K2 (allS (own_ns_exa Exa_0) all0)
  have szG2_3 : h0.size ≤ b9_2 := Nat.le_trans (Nat.le_refl h0.size) G2_3
  have N2 := Fr.app N0 Nq2
  show Go p e below s _ _ _ T2 (mkF m 10 #[.val (.ref li)] [(.ref b9_2)])
  refine waret C X2 f13_10 rfl rfl rfl rfl (by decide) (by decide) ?_
  have q3 := ((Keep.refl h0 [li]).trans K2 (allS (Or.inl (List.mem_of_getElem? (i := 0) rfl)) all0))
  exact ⟨b9_2, k9_2, rfl, N2, q3, G2_0, G2_1, G2_2, szG2_3, G2_4, G2_5⟩
theorem f12_0 : Dec jdk_38_method_24_code 0 (.iload_n 3) 1 1 := ⟨by decide +kernel, rfl⟩
theorem f12_1 : Dec jdk_38_method_24_code 1 (.aload_n 2) 1 2 := ⟨by decide +kernel, rfl⟩
theorem f12_2 : Dec jdk_38_method_24_code 2 (.arraylength) 1 3 := ⟨by decide +kernel, rfl⟩
theorem f12_3 : DecJ jdk_38_method_24_code 3 (.if_icmp .ne 8) 8 11 6 := ⟨by decide +kernel, by decide, by decide, rfl⟩
theorem f12_6 : Dec jdk_38_method_24_code 6 (.aload_n 0) 1 7 := ⟨by decide +kernel, rfl⟩
theorem f12_7 : Dec jdk_38_method_24_code 7 (.invokevirtual 129) 3 10 := ⟨by decide +kernel, rfl⟩
theorem f12_10 : Dec jdk_38_method_24_code 10 (.astore_n 2) 1 11 := ⟨by decide +kernel, rfl⟩
theorem f12_11 : Dec jdk_38_method_24_code 11 (.aload_n 2) 1 12 := ⟨by decide +kernel, rfl⟩
theorem f12_12 : Dec jdk_38_method_24_code 12 (.iload_n 3) 1 13 := ⟨by decide +kernel, rfl⟩
theorem f12_13 : Dec jdk_38_method_24_code 13 (.aload_n 1) 1 14 := ⟨by decide +kernel, rfl⟩
theorem f12_14 : Dec jdk_38_method_24_code 14 (.aastore) 1 15 := ⟨by decide +kernel, rfl⟩
theorem f12_15 : Dec jdk_38_method_24_code 15 (.aload_n 0) 1 16 := ⟨by decide +kernel, rfl⟩
theorem f12_16 : Dec jdk_38_method_24_code 16 (.iload_n 3) 1 17 := ⟨by decide +kernel, rfl⟩
theorem f12_17 : Dec jdk_38_method_24_code 17 (.iconst 1) 1 18 := ⟨by decide +kernel, rfl⟩
theorem f12_18 : Dec jdk_38_method_24_code 18 (.iadd) 1 19 := ⟨by decide +kernel, rfl⟩
theorem f12_19 : Dec jdk_38_method_24_code 19 (.putfield 48) 3 22 := ⟨by decide +kernel, rfl⟩
theorem f12_22 : Dec jdk_38_method_24_code 22 (.return_) 1 23 := ⟨by decide +kernel, rfl⟩
theorem pn_12 : plainFor (⟨"java/util/ArrayList", "add", "(Ljava/lang/Object;[Ljava/lang/Object;I)V"⟩ : MethodName) = true := plainFor_of_name (show plainName "java/util/ArrayList" = true by first | (simp [plainName, overriddenIn]; done) | decide +kernel)
theorem ef_12 (m : MethodId) (li : Addr) (it : Addr) (de : Addr) : entryFrame m #[(.ref li), (.ref it), (.ref de), (.int (0 : Int32))] 4 = mkF m 0 #[.val (.ref li), .val (.ref it), .val (.ref de), .val (.int (0 : Int32))] [] := by first | (simp [entryFrame, mkF, argsToLocals, Value.category]; done) | rfl
def Q12 (Z : State) (li : Addr) (it : Addr) (de : Addr) (kd : ClassId) (h0 : Heap) (n0 : Nat) (v9 : Option Value) (h9 : Heap) (L9 : List Loc) : Prop := v9 = none ∧ Fr n0 L9 ∧ Keep h0 h9 [li]
set_option maxRecDepth 65536 in
set_option maxHeartbeats 40000000 in
theorem rm12 (l : Launch) (Z : State) (a0 : Array Value) (hw : ∀ d ∈ tables_1, d.before a0 Z = true) (ws : List Jvm.Cond) (li : Addr) (it : Addr) (de : Addr) (kd : ClassId) (h0 : Heap) (n0 : Nat) (Z0 : n0 ≤ h0.size) (Exa_0 : Exa Z h0 li "java/util/ArrayList") (Fld_1 : Fld Z h0 li "java/util/AbstractList" "modCount" "I" (.int (1 : Int32))) (Fld_2 : Fld Z h0 li "java/util/ArrayList" "elementData" "[Ljava/lang/Object;" (.ref de)) (Fld_3 : Fld Z h0 li "java/util/ArrayList" "size" "I" (.int (0 : Int32))) (Sta_4 : Sta Z h0 "java/util/ArrayList" "DEFAULTCAPACITY_EMPTY_ELEMENTDATA" "[Ljava/lang/Object;" (.ref de)) (Arv_5 : Arv Z h0 de kd (.object "java/lang/Object") (0 : Int32) [] .null) (ge_6 : n0 ≤ li) (ne_7 : de ≠ li) (Exa_8 : Exa Z h0 it "java/lang/Integer") :
    MetFree l (⟨"java/util/ArrayList", "add", "(Ljava/lang/Object;[Ljava/lang/Object;I)V"⟩ : MethodName) (head1 (Jvm.Cond.code (⟨"java/util/ArrayList", "add", "(Ljava/lang/Object;[Ljava/lang/Object;I)V"⟩ : MethodName) jdk_38_method_24_code 4 none :: ws) ({ frames := 3, cells := 1, slots := 10, locals := 41 } : Room)) (fun A9 U9 => A9 = #[(.ref li), (.ref it), (.ref de), (.int (0 : Int32))] ∧ Z.Warmed39 U9.vm ∧ U9.heap = h0) (fun _ _ _ _ _ => True) (fun _ U9 o9 V9 => ∃ v9 L9, o9 = .returned v9 ∧ (Q12 Z li it de kd h0 n0) v9 V9.heap L9 ∧ FrameEnd U9 o9 V9 L9 ({ frames := 3, cells := 1, slots := 10, locals := 41 } : Room).cells ({ frames := 3, cells := 1, slots := 10, locals := 41 } : Room).slots) := by
  refine met_of (Q := (Q12 Z li it de kd h0 n0)) pn_12 ?_
  intro p e s m below meth c T0 C X0 e0
  have N0 := Fr.nil n0
  refine Go.cast (ef_12 m li it de) ?_
  refine wiloadN C X0 f12_0 rfl ?_
  refine waloadN C X0 f12_1 rfl rfl ?_
  refine walen C X0 e0 Arv_5 f12_2 ?_
  refine wicmp_ne C X0 f12_3 ?_ (fun q => absurd (by decide : ((0 : Int32) = (0 : Int32))) q)
  intro _
  refine waloadN C X0 f12_6 rfl rfl ?_
  refine wprivate C X0 (y := (⟨"java/util/ArrayList", "grow", "()[Ljava/lang/Object;"⟩ : MethodName)) (tw_77 hw) (tw_78 hw) (tw_80 hw) (tw_79 hw) (tw_81 hw) (tw_34 hw) (by decide) (rm13 l Z a0 hw [] li de kd h0 n0 Z0 Exa_0 Fld_1 Fld_2 Fld_3 Sta_4 Arv_5 ge_6 ne_7) e0 (a := li) Exa_0 f12_7 (argsL := []) (rest := []) rfl rfl (lenOf pd_3 rfl) rfl (W := 0) (Nat.le_of_eq rfl) (by decide) (by decide) (by decide) (by decide) ?_
  intro v1 T1 L1 X1 q1
  obtain ⟨b9_1, k9_1, rfl, Nq1, K1, G1_0, G1_1, G1_2, G1_3, G1_4, G1_5⟩ := q1
  have Sk1_0 := own_sta_keep Sta_4 K1 (allS (own_ns_exa Exa_0) all0)
  have szG1_3 : h0.size ≤ b9_1 := Nat.le_trans (Nat.le_refl h0.size) G1_3
  have N1 := Fr.app N0 Nq1
  show Go p e below s _ _ _ T1 (mkF m 10 #[.val (.ref li), .val (.ref it), .val (.ref de), .val (.int (0 : Int32))] [(.ref b9_1)])
  refine wastoreN C X1 f12_10 #[.val (.ref li), .val (.ref it), .val (.ref b9_1), .val (.int (0 : Int32))] rfl rfl ?_
  refine waloadN C X1 f12_11 rfl rfl ?_
  refine wiloadN C X1 f12_12 rfl ?_
  refine waloadN C X1 f12_13 rfl rfl ?_
  refine waast C X1 rfl G1_4 G1_5 (Ins.of_exa (Exa_8.keep K1) (tw_93 hw)) f12_14 ⟨by decide, by decide⟩ 0 rfl (show (0 : Nat) < 10 by decide) [(.ref it), .null, .null, .null, .null, .null, .null, .null, .null, .null] rfl ?_
  intro T2 h2 sl2 w2 X2 e2 W2 V2
  have N2 := Fr.snoc X2 N1 (Nat.le_trans Z0 szG1_3)
  refine waloadN C X2 f12_15 rfl rfl ?_
  refine wiloadN C X2 f12_16 rfl ?_
  refine wiconst C X2 f12_17 (1 : Int32) rfl ?_
  refine wiadd C X2 f12_18 ?_
  refine own_foldI (z := (1 : Int32)) (by decide) ?_
  have ne3 : li ≠ b9_1 := (Nat.ne_of_lt (Nat.lt_of_lt_of_le Exa_0.lt G1_3))
  refine wput C X2 (host := "") (Or.inl (tw_70 hw)) Via.refl e2 (G1_2.other W2 (Or.inl ne3)) ((Exa_0.keep K1).wr W2) (Or.inl (tw_71 hw)) (tw_33 hw) (ty := .int) (by decide) rfl rfl f12_19 ?_
  intro T4 h4 X4 e4 W4
  have Fw4 := (G1_2.other W2 (Or.inl ne3)).same W4
  have N4 := Fr.snoc X4 N2 ge_6
  refine wret C X4 f12_22 rfl (by decide) (by decide) ?_
  rw [e4]
  have q5 := ((((Keep.refl h0 [li]).trans K1 (allS (Or.inl (List.mem_of_getElem? (i := 0) rfl)) all0)).wr W2 (Or.inr szG1_3)).wr W4 (Or.inl (List.mem_of_getElem? (i := 0) rfl)))
  exact ⟨rfl, N4, q5⟩
theorem f11_0 : Dec jdk_38_method_25_code 0 (.aload_n 0) 1 1 := ⟨by decide +kernel, rfl⟩
theorem f11_1 : Dec jdk_38_method_25_code 1 (.dup) 1 2 := ⟨by decide +kernel, rfl⟩
theorem f11_2 : Dec jdk_38_method_25_code 2 (.getfield 63) 3 5 := ⟨by decide +kernel, rfl⟩
theorem f11_5 : Dec jdk_38_method_25_code 5 (.iconst 1) 1 6 := ⟨by decide +kernel, rfl⟩
theorem f11_6 : Dec jdk_38_method_25_code 6 (.iadd) 1 7 := ⟨by decide +kernel, rfl⟩
theorem f11_7 : Dec jdk_38_method_25_code 7 (.putfield 63) 3 10 := ⟨by decide +kernel, rfl⟩
theorem f11_10 : Dec jdk_38_method_25_code 10 (.aload_n 0) 1 11 := ⟨by decide +kernel, rfl⟩
theorem f11_11 : Dec jdk_38_method_25_code 11 (.aload_n 1) 1 12 := ⟨by decide +kernel, rfl⟩
theorem f11_12 : Dec jdk_38_method_25_code 12 (.aload_n 0) 1 13 := ⟨by decide +kernel, rfl⟩
theorem f11_13 : Dec jdk_38_method_25_code 13 (.getfield 9) 3 16 := ⟨by decide +kernel, rfl⟩
theorem f11_16 : Dec jdk_38_method_25_code 16 (.aload_n 0) 1 17 := ⟨by decide +kernel, rfl⟩
theorem f11_17 : Dec jdk_38_method_25_code 17 (.getfield 48) 3 20 := ⟨by decide +kernel, rfl⟩
theorem f11_20 : Dec jdk_38_method_25_code 20 (.invokevirtual 131) 3 23 := ⟨by decide +kernel, rfl⟩
theorem f11_23 : Dec jdk_38_method_25_code 23 (.iconst 1) 1 24 := ⟨by decide +kernel, rfl⟩
theorem f11_24 : Dec jdk_38_method_25_code 24 (.ireturn) 1 25 := ⟨by decide +kernel, rfl⟩
theorem pn_11 : plainFor (⟨"java/util/ArrayList", "add", "(Ljava/lang/Object;)Z"⟩ : MethodName) = true := plainFor_of_name (show plainName "java/util/ArrayList" = true by first | (simp [plainName, overriddenIn]; done) | decide +kernel)
theorem ef_11 (m : MethodId) (li : Addr) (it : Addr) : entryFrame m #[(.ref li), (.ref it)] 2 = mkF m 0 #[.val (.ref li), .val (.ref it)] [] := by first | (simp [entryFrame, mkF, argsToLocals, Value.category]; done) | rfl
def Q11 (Z : State) (li : Addr) (it : Addr) (de : Addr) (kd : ClassId) (h0 : Heap) (n0 : Nat) (v9 : Option Value) (h9 : Heap) (L9 : List Loc) : Prop := v9 = some (.int (1 : Int32)) ∧ Fr n0 L9 ∧ Keep h0 h9 [li]
set_option maxRecDepth 65536 in
set_option maxHeartbeats 40000000 in
theorem rm11 (l : Launch) (Z : State) (a0 : Array Value) (hw : ∀ d ∈ tables_1, d.before a0 Z = true) (ws : List Jvm.Cond) (li : Addr) (it : Addr) (de : Addr) (kd : ClassId) (h0 : Heap) (n0 : Nat) (Z0 : n0 ≤ h0.size) (Exa_0 : Exa Z h0 li "java/util/ArrayList") (Fld_1 : Fld Z h0 li "java/util/AbstractList" "modCount" "I" (.int (0 : Int32))) (Fld_2 : Fld Z h0 li "java/util/ArrayList" "elementData" "[Ljava/lang/Object;" (.ref de)) (Fld_3 : Fld Z h0 li "java/util/ArrayList" "size" "I" (.int (0 : Int32))) (Sta_4 : Sta Z h0 "java/util/ArrayList" "DEFAULTCAPACITY_EMPTY_ELEMENTDATA" "[Ljava/lang/Object;" (.ref de)) (Arv_5 : Arv Z h0 de kd (.object "java/lang/Object") (0 : Int32) [] .null) (ge_6 : n0 ≤ li) (ne_7 : de ≠ li) (Exa_8 : Exa Z h0 it "java/lang/Integer") :
    MetFree l (⟨"java/util/ArrayList", "add", "(Ljava/lang/Object;)Z"⟩ : MethodName) (head1 (Jvm.Cond.code (⟨"java/util/ArrayList", "add", "(Ljava/lang/Object;)Z"⟩ : MethodName) jdk_38_method_25_code 2 (some .boolean) :: ws) ({ frames := 4, cells := 1, slots := 10, locals := 56 } : Room)) (fun A9 U9 => A9 = #[(.ref li), (.ref it)] ∧ Z.Warmed39 U9.vm ∧ U9.heap = h0) (fun _ _ _ _ _ => True) (fun _ U9 o9 V9 => ∃ v9 L9, o9 = .returned v9 ∧ (Q11 Z li it de kd h0 n0) v9 V9.heap L9 ∧ FrameEnd U9 o9 V9 L9 ({ frames := 4, cells := 1, slots := 10, locals := 56 } : Room).cells ({ frames := 4, cells := 1, slots := 10, locals := 56 } : Room).slots) := by
  refine met_of (Q := (Q11 Z li it de kd h0 n0)) pn_11 ?_
  intro p e s m below meth c T0 C X0 e0
  have N0 := Fr.nil n0
  refine Go.cast (ef_11 m li it) ?_
  refine waloadN C X0 f11_0 rfl rfl ?_
  refine wdup C X0 f11_1 rfl ?_
  refine wget C X0 (host := "") (Or.inl (tw_68 hw)) (Via.of (tw_69 hw)) e0 Fld_1 f11_2 ?_
  intro T1 X1 e1
  refine wiconst C X1 f11_5 (1 : Int32) rfl ?_
  refine wiadd C X1 f11_6 ?_
  refine own_foldI (z := (1 : Int32)) (by decide) ?_
  refine wput C X1 (host := "") (Or.inl (tw_68 hw)) (Via.of (tw_69 hw)) e1 Fld_1 Exa_0 (Or.inl (tw_52 hw)) (tw_33 hw) (ty := .int) (by decide) rfl rfl f11_7 ?_
  intro T2 h2 X2 e2 W2
  have Fw2 := Fld_1.same W2
  have N2 := Fr.snoc X2 N0 ge_6
  refine waloadN C X2 f11_10 rfl rfl ?_
  refine waloadN C X2 f11_11 rfl rfl ?_
  refine waloadN C X2 f11_12 rfl rfl ?_
  have q3 := (Fld_2.other W2 (Or.inr (slot_ne (Or.inl (tw_55 hw)) (Or.inl (tw_52 hw)) (by decide) (t := (.array (.object "java/lang/Object"))) (t' := .int) (by decide) (by decide))))
  refine wget C X2 (host := "") (Or.inl (tw_54 hw)) Via.refl e2 q3 f11_13 ?_
  intro T4 X4 e4
  refine waloadN C X4 f11_16 rfl rfl ?_
  have q5 := (Fld_3.other W2 (Or.inr (slot_ne (Or.inl (tw_71 hw)) (Or.inl (tw_52 hw)) (by decide) (t := .int) (t' := .int) (by decide) (by decide))))
  refine wget C X4 (host := "") (Or.inl (tw_70 hw)) Via.refl e4 q5 f11_17 ?_
  intro T6 X6 e6
  refine wprivate C X6 (y := (⟨"java/util/ArrayList", "add", "(Ljava/lang/Object;[Ljava/lang/Object;I)V"⟩ : MethodName)) (tw_72 hw) (tw_73 hw) (tw_75 hw) (tw_74 hw) (tw_76 hw) (tw_34 hw) (by decide) (rm12 l Z a0 hw [] li it de kd h2 n0 (Nat.le_trans Z0 (Nat.le_of_eq W2.size.symm)) (Exa_0.wr W2) Fw2 q3 q5 (Sta_4.wr W2) (Arv_5.other W2 ne_7) ge_6 ne_7 (Exa_8.wr W2)) e6 (a := li) (Exa_0.wr W2) f11_20 (argsL := [(.ref it), (.ref de), (.int (0 : Int32))]) (rest := []) rfl rfl (lenOf pd_4 rfl) rfl (W := 0) (Nat.le_of_eq rfl) (by decide) (by decide) (by decide) (by decide) ?_
  intro v7 T7 L7 X7 q7
  obtain ⟨rfl, Nq7, K7⟩ := q7
  have q8 := (Nat.le_trans (Nat.le_refl h0.size) (Nat.le_of_eq W2.size.symm))
  have Sk7_0 := own_sta_keep (Sta_4.wr W2) K7 (allS (own_ns_exa (Exa_0.wr W2)) all0)
  have N7 := Fr.app N2 Nq7
  show Go p e below s _ _ _ T7 (mkF m 23 #[.val (.ref li), .val (.ref it)] [])
  refine wiconst C X7 f11_23 (1 : Int32) rfl ?_
  refine wiretN C X7 (t := .boolean) (by simp) f11_24 rfl (1 : Int32) (by decide) (by decide) (by decide) ?_
  have q9 := (((Keep.refl h0 [li]).wr W2 (Or.inl (List.mem_of_getElem? (i := 0) rfl))).trans K7 (allS (Or.inl (List.mem_of_getElem? (i := 0) rfl)) all0))
  exact ⟨rfl, N7, q9⟩
theorem f24_0 : Dec jdk_33_method_23_code 0 (.aload_n 0) 1 1 := ⟨by decide +kernel, rfl⟩
theorem f24_1 : Dec jdk_33_method_23_code 1 (.invokespecial 202) 3 4 := ⟨by decide +kernel, rfl⟩
theorem f24_4 : Dec jdk_33_method_23_code 4 (.aload_n 0) 1 5 := ⟨by decide +kernel, rfl⟩
theorem f24_5 : Dec jdk_33_method_23_code 5 (.iload_n 1) 1 6 := ⟨by decide +kernel, rfl⟩
theorem f24_6 : Dec jdk_33_method_23_code 6 (.putfield 205) 3 9 := ⟨by decide +kernel, rfl⟩
theorem f24_9 : Dec jdk_33_method_23_code 9 (.return_) 1 10 := ⟨by decide +kernel, rfl⟩
theorem pn_24 : plainFor (⟨"java/lang/Integer", "<init>", "(I)V"⟩ : MethodName) = true := plainFor_of_name (show plainName "java/lang/Integer" = true by first | (simp [plainName, overriddenIn]; done) | decide +kernel)
theorem ef_24 (m : MethodId) (a : Addr) (v : Int32) : entryFrame m #[(.ref a), (.int v)] 2 = mkF m 0 #[.val (.ref a), .val (.int v)] [] := by first | (simp [entryFrame, mkF, argsToLocals, Value.category]; done) | rfl
def Q24 (Z : State) (a : Addr) (v : Int32) (h0 : Heap) (n0 : Nat) (v9 : Option Value) (h9 : Heap) (L9 : List Loc) : Prop := v9 = none ∧ Fr n0 L9 ∧ Keep h0 h9 [a]
set_option maxRecDepth 65536 in
set_option maxHeartbeats 40000000 in
theorem rm24 (l : Launch) (Z : State) (a0 : Array Value) (hw : ∀ d ∈ tables_1, d.before a0 Z = true) (ws : List Jvm.Cond) (a : Addr) (v : Int32) (h0 : Heap) (n0 : Nat) (Z0 : n0 ≤ h0.size) (Exa_0 : Exa Z h0 a "java/lang/Integer") (Fld_1 : Fld Z h0 a "java/lang/Integer" "value" "I" (.int (0 : Int32))) (ge_2 : n0 ≤ a) :
    MetFree l (⟨"java/lang/Integer", "<init>", "(I)V"⟩ : MethodName) (head1 (Jvm.Cond.code (⟨"java/lang/Integer", "<init>", "(I)V"⟩ : MethodName) jdk_33_method_23_code 2 none :: ws) ({ frames := 2, cells := 0, slots := 0, locals := 24 } : Room)) (fun A9 U9 => A9 = #[(.ref a), (.int v)] ∧ Z.Warmed39 U9.vm ∧ U9.heap = h0) (fun _ _ _ _ _ => True) (fun _ U9 o9 V9 => ∃ v9 L9, o9 = .returned v9 ∧ (Q24 Z a v h0 n0) v9 V9.heap L9 ∧ FrameEnd U9 o9 V9 L9 ({ frames := 2, cells := 0, slots := 0, locals := 24 } : Room).cells ({ frames := 2, cells := 0, slots := 0, locals := 24 } : Room).slots) := by
  refine met_of (Q := (Q24 Z a v h0 n0)) pn_24 ?_
  intro p e s m below meth c T0 C X0 e0
  have N0 := Fr.nil n0
  refine Go.cast (ef_24 m a v) ?_
  refine waloadN C X0 f24_0 rfl rfl ?_
  refine wspecial C X0 (y := (⟨"java/lang/Number", "<init>", "()V"⟩ : MethodName)) rfl (tw_163 hw) (tw_141 hw) (tw_145 hw) (tw_144 hw) rfl (by decide) (rm23 l Z a0 hw [] a h0 n0 Z0) e0 f24_1 (a := a) (argsL := []) (rest := []) rfl rfl (lenOf pd_0 rfl) rfl (W := 0) (Nat.le_of_eq rfl) (by decide) (by decide) (by decide) (by decide) ?_
  intro v1 T1 L1 X1 q1
  obtain ⟨rfl, Nq1, eq1⟩ := q1
  have N1 := Fr.app N0 Nq1
  show Go p e below s _ _ _ T1 (mkF m 4 #[.val (.ref a), .val (.int v)] [])
  refine waloadN C X1 f24_4 rfl rfl ?_
  refine wiloadN C X1 f24_5 rfl ?_
  refine wput C X1 (host := "") (Or.inl (tw_165 hw)) Via.refl eq1 Fld_1 Exa_0 (Or.inr ⟨(tw_166 hw), rfl, rfl⟩) (tw_159 hw) (ty := .int) (by decide) rfl rfl f24_6 ?_
  intro T2 h2 X2 e2 W2
  have Fw2 := Fld_1.same W2
  have N2 := Fr.snoc X2 N1 ge_2
  refine wret C X2 f24_9 rfl (by decide) (by decide) ?_
  rw [e2]
  have q3 := ((Keep.refl h0 [a]).wr W2 (Or.inl (List.mem_of_getElem? (i := 0) rfl)))
  exact ⟨rfl, N2, q3⟩
theorem f22_0 : Dec jdk_35_method_26_code 0 (.aload_n 0) 1 1 := ⟨by decide +kernel, rfl⟩
theorem f22_1 : Dec jdk_35_method_26_code 1 (.invokespecial 270) 3 4 := ⟨by decide +kernel, rfl⟩
theorem f22_4 : Dec jdk_35_method_26_code 4 (.aload_n 0) 1 5 := ⟨by decide +kernel, rfl⟩
theorem f22_5 : Dec jdk_35_method_26_code 5 (.lload_n 1) 1 6 := ⟨by decide +kernel, rfl⟩
theorem f22_6 : Dec jdk_35_method_26_code 6 (.putfield 273) 3 9 := ⟨by decide +kernel, rfl⟩
theorem f22_9 : Dec jdk_35_method_26_code 9 (.return_) 1 10 := ⟨by decide +kernel, rfl⟩
theorem pn_22 : plainFor (⟨"java/lang/Long", "<init>", "(J)V"⟩ : MethodName) = true := plainFor_of_name (show plainName "java/lang/Long" = true by first | (simp [plainName, overriddenIn]; done) | decide +kernel)
theorem ef_22 (m : MethodId) (a : Addr) (v : Int64) : entryFrame m #[(.ref a), (.long v)] 3 = mkF m 0 #[.val (.ref a), .val (.long v), .second] [] := by first | (simp [entryFrame, mkF, argsToLocals, Value.category]; done) | rfl
def Q22 (Z : State) (a : Addr) (v : Int64) (h0 : Heap) (n0 : Nat) (v9 : Option Value) (h9 : Heap) (L9 : List Loc) : Prop := v9 = none ∧ Fr n0 L9 ∧ Keep h0 h9 [a]
set_option maxRecDepth 65536 in
set_option maxHeartbeats 40000000 in
theorem rm22 (l : Launch) (Z : State) (a0 : Array Value) (hw : ∀ d ∈ tables_1, d.before a0 Z = true) (ws : List Jvm.Cond) (a : Addr) (v : Int64) (h0 : Heap) (n0 : Nat) (Z0 : n0 ≤ h0.size) (Exa_0 : Exa Z h0 a "java/lang/Long") (Fld_1 : Fld Z h0 a "java/lang/Long" "value" "J" (.long (0 : Int64))) (ge_2 : n0 ≤ a) :
    MetFree l (⟨"java/lang/Long", "<init>", "(J)V"⟩ : MethodName) (head1 (Jvm.Cond.code (⟨"java/lang/Long", "<init>", "(J)V"⟩ : MethodName) jdk_35_method_26_code 3 none :: ws) ({ frames := 2, cells := 0, slots := 0, locals := 24 } : Room)) (fun A9 U9 => A9 = #[(.ref a), (.long v)] ∧ Z.Warmed39 U9.vm ∧ U9.heap = h0) (fun _ _ _ _ _ => True) (fun _ U9 o9 V9 => ∃ v9 L9, o9 = .returned v9 ∧ (Q22 Z a v h0 n0) v9 V9.heap L9 ∧ FrameEnd U9 o9 V9 L9 ({ frames := 2, cells := 0, slots := 0, locals := 24 } : Room).cells ({ frames := 2, cells := 0, slots := 0, locals := 24 } : Room).slots) := by
  refine met_of (Q := (Q22 Z a v h0 n0)) pn_22 ?_
  intro p e s m below meth c T0 C X0 e0
  have N0 := Fr.nil n0
  refine Go.cast (ef_22 m a v) ?_
  refine waloadN C X0 f22_0 rfl rfl ?_
  refine wspecial C X0 (y := (⟨"java/lang/Number", "<init>", "()V"⟩ : MethodName)) rfl (tw_140 hw) (tw_141 hw) (tw_145 hw) (tw_144 hw) rfl (by decide) (rm23 l Z a0 hw [] a h0 n0 Z0) e0 f22_1 (a := a) (argsL := []) (rest := []) rfl rfl (lenOf pd_0 rfl) rfl (W := 0) (Nat.le_of_eq rfl) (by decide) (by decide) (by decide) (by decide) ?_
  intro v1 T1 L1 X1 q1
  obtain ⟨rfl, Nq1, eq1⟩ := q1
  have N1 := Fr.app N0 Nq1
  show Go p e below s _ _ _ T1 (mkF m 4 #[.val (.ref a), .val (.long v), .second] [])
  refine waloadN C X1 f22_4 rfl rfl ?_
  refine wlloadN C X1 f22_5 rfl ?_
  refine wput C X1 (host := "") (Or.inl (tw_147 hw)) Via.refl eq1 Fld_1 Exa_0 (Or.inr ⟨(tw_148 hw), rfl, rfl⟩) (tw_135 hw) (ty := .long) (by decide) rfl rfl f22_6 ?_
  intro T2 h2 X2 e2 W2
  have Fw2 := Fld_1.same W2
  have N2 := Fr.snoc X2 N1 ge_2
  refine wret C X2 f22_9 rfl (by decide) (by decide) ?_
  rw [e2]
  have q3 := ((Keep.refl h0 [a]).wr W2 (Or.inl (List.mem_of_getElem? (i := 0) rfl)))
  exact ⟨rfl, N2, q3⟩
theorem f10_0 : Dec jdk_33_method_22_code 0 (.iload_n 0) 1 1 := ⟨by decide +kernel, rfl⟩
theorem f10_1 : Dec jdk_33_method_22_code 1 (.bipush (-128)) 2 3 := ⟨by decide +kernel, rfl⟩
theorem f10_3 : DecJ jdk_33_method_22_code 3 (.if_icmp .lt 20) 20 23 6 := ⟨by decide +kernel, by decide, by decide, rfl⟩
theorem f10_6 : Dec jdk_33_method_22_code 6 (.iload_n 0) 1 7 := ⟨by decide +kernel, rfl⟩
theorem f10_7 : Dec jdk_33_method_22_code 7 (.getstatic 191) 3 10 := ⟨by decide +kernel, rfl⟩
theorem f10_10 : DecJ jdk_33_method_22_code 10 (.if_icmp .gt 13) 13 23 13 := ⟨by decide +kernel, by decide, by decide, rfl⟩
theorem f10_13 : Dec jdk_33_method_22_code 13 (.getstatic 195) 3 16 := ⟨by decide +kernel, rfl⟩
theorem f10_16 : Dec jdk_33_method_22_code 16 (.iload_n 0) 1 17 := ⟨by decide +kernel, rfl⟩
theorem f10_17 : Dec jdk_33_method_22_code 17 (.sipush 128) 3 20 := ⟨by decide +kernel, rfl⟩
theorem f10_20 : Dec jdk_33_method_22_code 20 (.iadd) 1 21 := ⟨by decide +kernel, rfl⟩
theorem f10_21 : Dec jdk_33_method_22_code 21 (.aaload) 1 22 := ⟨by decide +kernel, rfl⟩
theorem f10_22 : Dec jdk_33_method_22_code 22 (.areturn) 1 23 := ⟨by decide +kernel, rfl⟩
theorem f10_23 : Dec jdk_33_method_22_code 23 (.new 1) 3 26 := ⟨by decide +kernel, rfl⟩
theorem f10_26 : Dec jdk_33_method_22_code 26 (.dup) 1 27 := ⟨by decide +kernel, rfl⟩
theorem f10_27 : Dec jdk_33_method_22_code 27 (.iload_n 0) 1 28 := ⟨by decide +kernel, rfl⟩
theorem f10_28 : Dec jdk_33_method_22_code 28 (.invokespecial 199) 3 31 := ⟨by decide +kernel, rfl⟩
theorem f10_31 : Dec jdk_33_method_22_code 31 (.areturn) 1 32 := ⟨by decide +kernel, rfl⟩
theorem pn_10 : plainFor (⟨"java/lang/Integer", "valueOf", "(I)Ljava/lang/Integer;"⟩ : MethodName) = true := plainFor_of_name (show plainName "java/lang/Integer" = true by first | (simp [plainName, overriddenIn]; done) | decide +kernel)
theorem ef_10 (m : MethodId) (xv : Int32) : entryFrame m #[(.int xv)] 1 = mkF m 0 #[.val (.int xv)] [] := by first | (simp [entryFrame, mkF, argsToLocals, Value.category]; done) | rfl
def Q10 (Z : State) (xv : Int32) (ci : Addr) (h0 : Heap) (n0 : Nat) (v9 : Option Value) (h9 : Heap) (L9 : List Loc) : Prop := ∃ (b9 : Addr), v9 = some (.ref b9) ∧ Fr n0 L9 ∧ Keep h0 h9 [] ∧ Exa Z h9 b9 "java/lang/Integer"
set_option maxRecDepth 65536 in
set_option maxHeartbeats 40000000 in
theorem rm10 (l : Launch) (Z : State) (a0 : Array Value) (hw : ∀ d ∈ tables_1, d.before a0 Z = true) (ws : List Jvm.Cond) (xv : Int32) (ci : Addr) (h0 : Heap) (n0 : Nat) (Z0 : n0 ≤ h0.size) (Sta_0 : Sta Z h0 "java/lang/Integer$IntegerCache" "high" "I" (.int (127 : Int32))) (Sta_1 : Sta Z h0 "java/lang/Integer$IntegerCache" "cache" "[Ljava/lang/Integer;" (.ref ci)) (Cac_2 : own_Cac Z h0 ci "java/lang/Integer") :
    MetFree l (⟨"java/lang/Integer", "valueOf", "(I)Ljava/lang/Integer;"⟩ : MethodName) (head1 (Jvm.Cond.code (⟨"java/lang/Integer", "valueOf", "(I)Ljava/lang/Integer;"⟩ : MethodName) jdk_33_method_22_code 1 (some (.object "java/lang/Integer")) :: ws) ({ frames := 3, cells := 1, slots := 1, locals := 38 } : Room)) (fun A9 U9 => A9 = #[(.int xv)] ∧ Z.Warmed39 U9.vm ∧ U9.heap = h0) (fun _ _ _ _ _ => True) (fun _ U9 o9 V9 => ∃ v9 L9, o9 = .returned v9 ∧ (Q10 Z xv ci h0 n0) v9 V9.heap L9 ∧ FrameEnd U9 o9 V9 L9 ({ frames := 3, cells := 1, slots := 1, locals := 38 } : Room).cells ({ frames := 3, cells := 1, slots := 1, locals := 38 } : Room).slots) := by
  refine met_of (Q := (Q10 Z xv ci h0 n0)) pn_10 ?_
  intro p e s m below meth c T0 C X0 e0
  have N0 := Fr.nil n0
  refine Go.cast (ef_10 m xv) ?_
  refine wiloadN C X0 f10_0 rfl ?_
  refine wbipush C X0 f10_1 (-128 : Int32) bp_b_m128 ?_
  refine wicmp_lt C X0 f10_3 (fun hc3 => ?_) (fun hc3 => ?_)
  · refine wnew C X0 (tw_158 hw) (tw_159 hw) (tw_58 hw) e0 f10_23 (by decide) (by decide) ?_
    intro T1 h1 b1 g1 X1 e1 E1 A1 D1
    have sz1 : h0.size ≤ b1 := Nat.le_trans (Nat.le_refl h0.size) (Nat.le_of_eq g1.symm)
    have F1_value : Fld Z h1 b1 "java/lang/Integer" "value" "I" (.int (0 : Int32)) := D1 (Or.inr (tw_166 hw)) (ty := .int) (by decide)
    refine wdup C X1 f10_26 rfl ?_
    refine wiloadN C X1 f10_27 rfl ?_
    refine wspecial C X1 (y := (⟨"java/lang/Integer", "<init>", "(I)V"⟩ : MethodName)) rfl (tw_160 hw) (tw_161 hw) (tw_162 hw) (tw_58 hw) rfl (by decide) (rm24 l Z a0 hw [] b1 xv h1 n0 (Nat.le_trans Z0 E1.1) A1 F1_value (Nat.le_trans Z0 sz1)) e1 f10_28 (a := b1) (argsL := [(.int xv)]) (rest := [(.ref b1)]) rfl rfl (lenOf pd_5 rfl) rfl (W := 1) (Nat.le_of_eq rfl) (by decide) (by decide) (by decide) (by decide) ?_
    intro v2 T2 L2 X2 q2
    obtain ⟨rfl, Nq2, K2⟩ := q2
    have Sk2_0 := own_sta_keep (Sta_0.ext E1) K2 (allS (own_ns_exa A1) all0)
    have Sk2_1 := own_sta_keep (Sta_1.ext E1) K2 (allS (own_ns_exa A1) all0)
    have N2 := Fr.app N0 Nq2
    show Go p e below s _ _ _ T2 (mkF m 31 #[.val (.int xv)] [(.ref b1)])
    refine waret C X2 f10_31 rfl rfl rfl rfl (by decide) (by decide) ?_
    have q3 := (((Keep.refl h0 []).ext E1).trans K2 (allS (Or.inr sz1) all0))
    exact ⟨b1, rfl, N2, q3, (A1.keep K2)⟩
  · refine wiloadN C X0 f10_6 rfl ?_
    refine wgets C X0 (host := "") (Or.inl (tw_60 hw)) Via.refl e0 Sta_0 f10_7 ?_
    intro T4 X4 e4
    refine wicmp_gt C X4 f10_10 (fun hc10 => ?_) (fun hc10 => ?_)
    · refine wnew C X4 (tw_158 hw) (tw_159 hw) (tw_58 hw) e4 f10_23 (by decide) (by decide) ?_
      intro T5 h5 b5 g5 X5 e5 E5 A5 D5
      have sz5 : h0.size ≤ b5 := Nat.le_trans (Nat.le_refl h0.size) (Nat.le_of_eq g5.symm)
      have F5_value : Fld Z h5 b5 "java/lang/Integer" "value" "I" (.int (0 : Int32)) := D5 (Or.inr (tw_166 hw)) (ty := .int) (by decide)
      refine wdup C X5 f10_26 rfl ?_
      refine wiloadN C X5 f10_27 rfl ?_
      refine wspecial C X5 (y := (⟨"java/lang/Integer", "<init>", "(I)V"⟩ : MethodName)) rfl (tw_160 hw) (tw_161 hw) (tw_162 hw) (tw_58 hw) rfl (by decide) (rm24 l Z a0 hw [] b5 xv h5 n0 (Nat.le_trans Z0 E5.1) A5 F5_value (Nat.le_trans Z0 sz5)) e5 f10_28 (a := b5) (argsL := [(.int xv)]) (rest := [(.ref b5)]) rfl rfl (lenOf pd_5 rfl) rfl (W := 1) (Nat.le_of_eq rfl) (by decide) (by decide) (by decide) (by decide) ?_
      intro v6 T6 L6 X6 q6
      obtain ⟨rfl, Nq6, K6⟩ := q6
      have Sk6_0 := own_sta_keep (Sta_0.ext E5) K6 (allS (own_ns_exa A5) all0)
      have Sk6_1 := own_sta_keep (Sta_1.ext E5) K6 (allS (own_ns_exa A5) all0)
      have N6 := Fr.app N0 Nq6
      show Go p e below s _ _ _ T6 (mkF m 31 #[.val (.int xv)] [(.ref b5)])
      refine waret C X6 f10_31 rfl rfl rfl rfl (by decide) (by decide) ?_
      have q7 := (((Keep.refl h0 []).ext E5).trans K6 (allS (Or.inr sz5) all0))
      exact ⟨b5, rfl, N6, q7, (A5.keep K6)⟩
    · refine wgets C X4 (host := "") (Or.inl (tw_62 hw)) Via.refl e4 Sta_1 f10_13 ?_
      intro T8 X8 e8
      refine wiloadN C X8 f10_16 rfl ?_
      refine wsipush C X8 f10_17 (128 : Int32) bp_s_128 ?_
      refine wiadd C X8 f10_20 ?_
      obtain ⟨cl9, Ac9, Sc9, Hc9⟩ := Cac_2
      obtain ⟨y9, hy9, Ey9⟩ := Hc9 _ (own_cix hc3 hc10).2
      refine waaloadA C X8 e8 Ac9 rfl (own_cin hc3 hc10 Sc9) hy9 f10_21 ?_
      refine waret C X8 f10_22 rfl rfl rfl rfl (by decide) (by decide) ?_
      rw [e8]
      exact ⟨y9, rfl, N0, (Keep.refl h0 []), Ey9⟩
theorem f21_0 : Dec jdk_35_method_24_code 0 (.sipush 128) 3 3 := ⟨by decide +kernel, rfl⟩
theorem f21_3 : Dec jdk_35_method_24_code 3 (.istore_n 2) 1 4 := ⟨by decide +kernel, rfl⟩
theorem f21_4 : Dec jdk_35_method_24_code 4 (.lload_n 0) 1 5 := ⟨by decide +kernel, rfl⟩
theorem f21_5 : Dec jdk_35_method_24_code 5 (.ldc2_w 230) 3 8 := ⟨by decide +kernel, rfl⟩
theorem f21_8 : Dec jdk_35_method_24_code 8 (.lcmp) 1 9 := ⟨by decide +kernel, rfl⟩
theorem f21_9 : DecJ jdk_35_method_24_code 9 (.ifCond .lt 22) 22 31 12 := ⟨by decide +kernel, by decide, by decide, rfl⟩
theorem f21_12 : Dec jdk_35_method_24_code 12 (.lload_n 0) 1 13 := ⟨by decide +kernel, rfl⟩
theorem f21_13 : Dec jdk_35_method_24_code 13 (.ldc2_w 232) 3 16 := ⟨by decide +kernel, rfl⟩
theorem f21_16 : Dec jdk_35_method_24_code 16 (.lcmp) 1 17 := ⟨by decide +kernel, rfl⟩
theorem f21_17 : DecJ jdk_35_method_24_code 17 (.ifCond .gt 14) 14 31 20 := ⟨by decide +kernel, by decide, by decide, rfl⟩
theorem f21_20 : Dec jdk_35_method_24_code 20 (.getstatic 234) 3 23 := ⟨by decide +kernel, rfl⟩
theorem f21_23 : Dec jdk_35_method_24_code 23 (.lload_n 0) 1 24 := ⟨by decide +kernel, rfl⟩
theorem f21_24 : Dec jdk_35_method_24_code 24 (.l2i) 1 25 := ⟨by decide +kernel, rfl⟩
theorem f21_25 : Dec jdk_35_method_24_code 25 (.sipush 128) 3 28 := ⟨by decide +kernel, rfl⟩
theorem f21_28 : Dec jdk_35_method_24_code 28 (.iadd) 1 29 := ⟨by decide +kernel, rfl⟩
theorem f21_29 : Dec jdk_35_method_24_code 29 (.aaload) 1 30 := ⟨by decide +kernel, rfl⟩
theorem f21_30 : Dec jdk_35_method_24_code 30 (.areturn) 1 31 := ⟨by decide +kernel, rfl⟩
theorem f21_31 : Dec jdk_35_method_24_code 31 (.new 1) 3 34 := ⟨by decide +kernel, rfl⟩
theorem f21_34 : Dec jdk_35_method_24_code 34 (.dup) 1 35 := ⟨by decide +kernel, rfl⟩
theorem f21_35 : Dec jdk_35_method_24_code 35 (.lload_n 0) 1 36 := ⟨by decide +kernel, rfl⟩
theorem f21_36 : Dec jdk_35_method_24_code 36 (.invokespecial 240) 3 39 := ⟨by decide +kernel, rfl⟩
theorem f21_39 : Dec jdk_35_method_24_code 39 (.areturn) 1 40 := ⟨by decide +kernel, rfl⟩
theorem pn_21 : plainFor (⟨"java/lang/Long", "valueOf", "(J)Ljava/lang/Long;"⟩ : MethodName) = true := plainFor_of_name (show plainName "java/lang/Long" = true by first | (simp [plainName, overriddenIn]; done) | decide +kernel)
theorem ef_21 (m : MethodId) (yv : Int64) : entryFrame m #[(.long yv)] 3 = mkF m 0 #[.val (.long yv), .second, .unset] [] := by first | (simp [entryFrame, mkF, argsToLocals, Value.category]; done) | rfl
def Q21 (Z : State) (yv : Int64) (cj : Addr) (h0 : Heap) (n0 : Nat) (v9 : Option Value) (h9 : Heap) (L9 : List Loc) : Prop := ∃ (b9 : Addr), v9 = some (.ref b9) ∧ Fr n0 L9 ∧ Keep h0 h9 [] ∧ Exa Z h9 b9 "java/lang/Long"
set_option maxRecDepth 65536 in
set_option maxHeartbeats 40000000 in
theorem rm21 (l : Launch) (Z : State) (a0 : Array Value) (hw : ∀ d ∈ tables_1, d.before a0 Z = true) (ws : List Jvm.Cond) (yv : Int64) (cj : Addr) (h0 : Heap) (n0 : Nat) (Z0 : n0 ≤ h0.size) (Sta_0 : Sta Z h0 "java/lang/Long$LongCache" "cache" "[Ljava/lang/Long;" (.ref cj)) (Cac_1 : own_Cac Z h0 cj "java/lang/Long") :
    MetFree l (⟨"java/lang/Long", "valueOf", "(J)Ljava/lang/Long;"⟩ : MethodName) (head1 (Jvm.Cond.code (⟨"java/lang/Long", "valueOf", "(J)Ljava/lang/Long;"⟩ : MethodName) jdk_35_method_24_code 3 (some (.object "java/lang/Long")) :: ws) ({ frames := 3, cells := 1, slots := 1, locals := 39 } : Room)) (fun A9 U9 => A9 = #[(.long yv)] ∧ Z.Warmed39 U9.vm ∧ U9.heap = h0) (fun _ _ _ _ _ => True) (fun _ U9 o9 V9 => ∃ v9 L9, o9 = .returned v9 ∧ (Q21 Z yv cj h0 n0) v9 V9.heap L9 ∧ FrameEnd U9 o9 V9 L9 ({ frames := 3, cells := 1, slots := 1, locals := 39 } : Room).cells ({ frames := 3, cells := 1, slots := 1, locals := 39 } : Room).slots) := by
  refine met_of (Q := (Q21 Z yv cj h0 n0)) pn_21 ?_
  intro p e s m below meth c T0 C X0 e0
  have N0 := Fr.nil n0
  refine Go.cast (ef_21 m yv) ?_
  refine wsipush C X0 f21_0 (128 : Int32) bp_s_128 ?_
  refine wistoreN C X0 f21_3 #[.val (.long yv), .second, .val (.int (128 : Int32))] rfl ?_
  refine wlloadN C X0 f21_4 rfl ?_
  refine wldc2J C X0 (tw_133 hw) f21_5 ?_
  refine wlcmp C X0 f21_8 ?_
  refine wif_lt C X0 f21_9 (fun hc9 => ?_) (fun hc9 => ?_)
  · refine wnew C X0 (tw_134 hw) (tw_135 hw) (tw_131 hw) e0 f21_31 (by decide) (by decide) ?_
    intro T1 h1 b1 g1 X1 e1 E1 A1 D1
    have sz1 : h0.size ≤ b1 := Nat.le_trans (Nat.le_refl h0.size) (Nat.le_of_eq g1.symm)
    have F1_value : Fld Z h1 b1 "java/lang/Long" "value" "J" (.long (0 : Int64)) := D1 (Or.inr (tw_148 hw)) (ty := .long) (by decide)
    refine wdup C X1 f21_34 rfl ?_
    refine wlloadN C X1 f21_35 rfl ?_
    refine wspecial C X1 (y := (⟨"java/lang/Long", "<init>", "(J)V"⟩ : MethodName)) rfl (tw_136 hw) (tw_137 hw) (tw_139 hw) (tw_131 hw) rfl (by decide) (rm22 l Z a0 hw [] b1 yv h1 n0 (Nat.le_trans Z0 E1.1) A1 F1_value (Nat.le_trans Z0 sz1)) e1 f21_36 (a := b1) (argsL := [(.long yv)]) (rest := [(.ref b1)]) rfl rfl (lenOf pd_6 rfl) rfl (W := 1) (Nat.le_of_eq rfl) (by decide) (by decide) (by decide) (by decide) ?_
    intro v2 T2 L2 X2 q2
    obtain ⟨rfl, Nq2, K2⟩ := q2
    have Sk2_0 := own_sta_keep (Sta_0.ext E1) K2 (allS (own_ns_exa A1) all0)
    have N2 := Fr.app N0 Nq2
    show Go p e below s _ _ _ T2 (mkF m 39 #[.val (.long yv), .second, .val (.int (128 : Int32))] [(.ref b1)])
    refine waret C X2 f21_39 rfl rfl rfl rfl (by decide) (by decide) ?_
    have q3 := (((Keep.refl h0 []).ext E1).trans K2 (allS (Or.inr sz1) all0))
    exact ⟨b1, rfl, N2, q3, (A1.keep K2)⟩
  · refine wlloadN C X0 f21_12 rfl ?_
    refine wldc2J C X0 (tw_167 hw) f21_13 ?_
    refine wlcmp C X0 f21_16 ?_
    refine wif_gt C X0 f21_17 (fun hc17 => ?_) (fun hc17 => ?_)
    · refine wnew C X0 (tw_134 hw) (tw_135 hw) (tw_131 hw) e0 f21_31 (by decide) (by decide) ?_
      intro T4 h4 b4 g4 X4 e4 E4 A4 D4
      have sz4 : h0.size ≤ b4 := Nat.le_trans (Nat.le_refl h0.size) (Nat.le_of_eq g4.symm)
      have F4_value : Fld Z h4 b4 "java/lang/Long" "value" "J" (.long (0 : Int64)) := D4 (Or.inr (tw_148 hw)) (ty := .long) (by decide)
      refine wdup C X4 f21_34 rfl ?_
      refine wlloadN C X4 f21_35 rfl ?_
      refine wspecial C X4 (y := (⟨"java/lang/Long", "<init>", "(J)V"⟩ : MethodName)) rfl (tw_136 hw) (tw_137 hw) (tw_139 hw) (tw_131 hw) rfl (by decide) (rm22 l Z a0 hw [] b4 yv h4 n0 (Nat.le_trans Z0 E4.1) A4 F4_value (Nat.le_trans Z0 sz4)) e4 f21_36 (a := b4) (argsL := [(.long yv)]) (rest := [(.ref b4)]) rfl rfl (lenOf pd_6 rfl) rfl (W := 1) (Nat.le_of_eq rfl) (by decide) (by decide) (by decide) (by decide) ?_
      intro v5 T5 L5 X5 q5
      obtain ⟨rfl, Nq5, K5⟩ := q5
      have Sk5_0 := own_sta_keep (Sta_0.ext E4) K5 (allS (own_ns_exa A4) all0)
      have N5 := Fr.app N0 Nq5
      show Go p e below s _ _ _ T5 (mkF m 39 #[.val (.long yv), .second, .val (.int (128 : Int32))] [(.ref b4)])
      refine waret C X5 f21_39 rfl rfl rfl rfl (by decide) (by decide) ?_
      have q6 := (((Keep.refl h0 []).ext E4).trans K5 (allS (Or.inr sz4) all0))
      exact ⟨b4, rfl, N5, q6, (A4.keep K5)⟩
    · refine wgets C X0 (host := "") (Or.inl (tw_168 hw)) Via.refl e0 Sta_0 f21_20 ?_
      intro T7 X7 e7
      refine wlloadN C X7 f21_23 rfl ?_
      refine wl2i C X7 f21_24 ?_
      refine wsipush C X7 f21_25 (128 : Int32) bp_s_128 ?_
      refine wiadd C X7 f21_28 ?_
      obtain ⟨cl8, Ac8, Sc8, Hc8⟩ := Cac_1
      obtain ⟨y8, hy8, Ey8⟩ := Hc8 _ (own_cix (own_lx hc9 hc17).1 (own_lx hc9 hc17).2).2
      refine waaloadA C X7 e7 Ac8 rfl (own_cin (own_lx hc9 hc17).1 (own_lx hc9 hc17).2 Sc8) hy8 f21_29 ?_
      refine waret C X7 f21_30 rfl rfl rfl rfl (by decide) (by decide) ?_
      rw [e7]
      exact ⟨y8, rfl, N0, (Keep.refl h0 []), Ey8⟩
theorem f20_0 : Dec jdk_52_method_15_code 0 (.iload_n 1) 1 1 := ⟨by decide +kernel, rfl⟩
theorem f20_1 : Dec jdk_52_method_15_code 1 (.aload_n 0) 1 2 := ⟨by decide +kernel, rfl⟩
theorem f20_2 : Dec jdk_52_method_15_code 2 (.arraylength) 1 3 := ⟨by decide +kernel, rfl⟩
theorem f20_3 : Dec jdk_52_method_15_code 3 (.isub) 1 4 := ⟨by decide +kernel, rfl⟩
theorem f20_4 : Dec jdk_52_method_15_code 4 (.bipush 31) 2 6 := ⟨by decide +kernel, rfl⟩
theorem f20_6 : Dec jdk_52_method_15_code 6 (.iushr) 1 7 := ⟨by decide +kernel, rfl⟩
theorem f20_7 : Dec jdk_52_method_15_code 7 (.i2b) 1 8 := ⟨by decide +kernel, rfl⟩
theorem f20_8 : Dec jdk_52_method_15_code 8 (.ireturn) 1 9 := ⟨by decide +kernel, rfl⟩
theorem pn_20 : plainFor (⟨"java/lang/StringUTF16", "coderFromArrayLen", "([BI)B"⟩ : MethodName) = true := plainFor_of_name (show plainName "java/lang/StringUTF16" = true by first | (simp [plainName, overriddenIn]; done) | decide +kernel)
theorem ef_20 (m : MethodId) (ba : Addr) : entryFrame m #[(.ref ba), (.int (2 : Int32))] 2 = mkF m 0 #[.val (.ref ba), .val (.int (2 : Int32))] [] := by first | (simp [entryFrame, mkF, argsToLocals, Value.category]; done) | rfl
def Q20 (Z : State) (ba : Addr) (kb : ClassId) (vs : List Value) (h0 : Heap) (n0 : Nat) (v9 : Option Value) (h9 : Heap) (L9 : List Loc) : Prop := v9 = some (.int (0 : Int32)) ∧ Fr n0 L9 ∧ h9 = h0
set_option maxRecDepth 65536 in
set_option maxHeartbeats 40000000 in
theorem rm20 (l : Launch) (Z : State) (a0 : Array Value) (hw : ∀ d ∈ tables_1, d.before a0 Z = true) (ws : List Jvm.Cond) (ba : Addr) (kb : ClassId) (vs : List Value) (h0 : Heap) (n0 : Nat) (Z0 : n0 ≤ h0.size) (Arv_0 : Arv Z h0 ba kb .byte (2 : Int32) vs (.int (0 : Int32))) :
    MetFree l (⟨"java/lang/StringUTF16", "coderFromArrayLen", "([BI)B"⟩ : MethodName) (head1 (Jvm.Cond.code (⟨"java/lang/StringUTF16", "coderFromArrayLen", "([BI)B"⟩ : MethodName) jdk_52_method_15_code 2 (some .byte) :: ws) ({ frames := 0, cells := 0, slots := 0, locals := 0 } : Room)) (fun A9 U9 => A9 = #[(.ref ba), (.int (2 : Int32))] ∧ Z.Warmed39 U9.vm ∧ U9.heap = h0) (fun _ _ _ _ _ => True) (fun _ U9 o9 V9 => ∃ v9 L9, o9 = .returned v9 ∧ (Q20 Z ba kb vs h0 n0) v9 V9.heap L9 ∧ FrameEnd U9 o9 V9 L9 ({ frames := 0, cells := 0, slots := 0, locals := 0 } : Room).cells ({ frames := 0, cells := 0, slots := 0, locals := 0 } : Room).slots) := by
  refine met_of (Q := (Q20 Z ba kb vs h0 n0)) pn_20 ?_
  intro p e s m below meth c T0 C X0 e0
  have N0 := Fr.nil n0
  refine Go.cast (ef_20 m ba) ?_
  refine wiloadN C X0 f20_0 rfl ?_
  refine waloadN C X0 f20_1 rfl rfl ?_
  refine walen C X0 e0 Arv_0 f20_2 ?_
  refine wisub C X0 f20_3 ?_
  refine own_foldI (z := (0 : Int32)) (by decide) ?_
  refine wbipush C X0 f20_4 (31 : Int32) bp_b_31 ?_
  refine wiushr C X0 f20_6 ?_
  refine own_foldI (z := (0 : Int32)) (by decide) ?_
  refine wi2b C X0 f20_7 ?_
  refine own_foldI (z := (0 : Int32)) (by decide) ?_
  refine wiretN C X0 (t := .byte) (by simp) f20_8 rfl (0 : Int32) (by decide) (by decide) (by decide) ?_
  rw [e0]
  exact ⟨rfl, N0, rfl⟩
theorem f19_0 : Dec jdk_52_method_21_code 0 (.iconst 0) 1 1 := ⟨by decide +kernel, rfl⟩
theorem f19_1 : Dec jdk_52_method_21_code 1 (.istore 5) 2 3 := ⟨by decide +kernel, rfl⟩
theorem f19_3 : Dec jdk_52_method_21_code 3 (.iload 5) 2 5 := ⟨by decide +kernel, rfl⟩
theorem f19_5 : Dec jdk_52_method_21_code 5 (.iload 4) 2 7 := ⟨by decide +kernel, rfl⟩
theorem f19_7 : DecJ jdk_52_method_21_code 7 (.if_icmp .ge 37) 37 44 10 := ⟨by decide +kernel, by decide, by decide, rfl⟩
theorem f19_10 : Dec jdk_52_method_21_code 10 (.aload_n 0) 1 11 := ⟨by decide +kernel, rfl⟩
theorem f19_11 : Dec jdk_52_method_21_code 11 (.iload_n 1) 1 12 := ⟨by decide +kernel, rfl⟩
theorem f19_12 : Dec jdk_52_method_21_code 12 (.caload) 1 13 := ⟨by decide +kernel, rfl⟩
theorem f19_13 : Dec jdk_52_method_21_code 13 (.istore 6) 2 15 := ⟨by decide +kernel, rfl⟩
theorem f19_15 : Dec jdk_52_method_21_code 15 (.iload 6) 2 17 := ⟨by decide +kernel, rfl⟩
theorem f19_17 : Dec jdk_52_method_21_code 17 (.sipush 255) 3 20 := ⟨by decide +kernel, rfl⟩
theorem f19_20 : DecJ jdk_52_method_21_code 20 (.if_icmp .le 6) 6 26 23 := ⟨by decide +kernel, by decide, by decide, rfl⟩
theorem f19_26 : Dec jdk_52_method_21_code 26 (.aload_n 2) 1 27 := ⟨by decide +kernel, rfl⟩
theorem f19_27 : Dec jdk_52_method_21_code 27 (.iload_n 3) 1 28 := ⟨by decide +kernel, rfl⟩
theorem f19_28 : Dec jdk_52_method_21_code 28 (.iload 6) 2 30 := ⟨by decide +kernel, rfl⟩
theorem f19_30 : Dec jdk_52_method_21_code 30 (.i2b) 1 31 := ⟨by decide +kernel, rfl⟩
theorem f19_31 : Dec jdk_52_method_21_code 31 (.bastore) 1 32 := ⟨by decide +kernel, rfl⟩
theorem f19_32 : Dec jdk_52_method_21_code 32 (.iinc 1 1) 3 35 := ⟨by decide +kernel, rfl⟩
theorem f19_35 : Dec jdk_52_method_21_code 35 (.iinc 3 1) 3 38 := ⟨by decide +kernel, rfl⟩
theorem f19_38 : Dec jdk_52_method_21_code 38 (.iinc 5 1) 3 41 := ⟨by decide +kernel, rfl⟩
theorem f19_41 : DecJ jdk_52_method_21_code 41 (.goto (-38)) (-38) 3 44 := ⟨by decide +kernel, by decide, by decide, rfl⟩
theorem f19_44 : Dec jdk_52_method_21_code 44 (.iload 4) 2 46 := ⟨by decide +kernel, rfl⟩
theorem f19_46 : Dec jdk_52_method_21_code 46 (.ireturn) 1 47 := ⟨by decide +kernel, rfl⟩
theorem pn_19 : plainFor (⟨"java/lang/StringUTF16", "compress", "([CI[BII)I"⟩ : MethodName) = true := plainFor_of_name (show plainName "java/lang/StringUTF16" = true by first | (simp [plainName, overriddenIn]; done) | decide +kernel)
theorem ef_19 (m : MethodId) (ca : Addr) (ba : Addr) : entryFrame m #[(.ref ca), (.int (0 : Int32)), (.ref ba), (.int (0 : Int32)), (.int (2 : Int32))] 7 = mkF m 0 #[.val (.ref ca), .val (.int (0 : Int32)), .val (.ref ba), .val (.int (0 : Int32)), .val (.int (2 : Int32)), .unset, .unset] [] := by first | (simp [entryFrame, mkF, argsToLocals, Value.category]; done) | rfl
def Q19 (Z : State) (ca : Addr) (ba : Addr) (kc : ClassId) (u0 : Int32) (u1 : Int32) (kb : ClassId) (h0 : Heap) (n0 : Nat) (v9 : Option Value) (h9 : Heap) (L9 : List Loc) : Prop := v9 = some (.int (2 : Int32)) ∧ Fr n0 L9 ∧ Keep h0 h9 [ba] ∧ Arv Z h9 ba kb .byte (2 : Int32) [(.int u0.toInt8.toInt32.toInt8.toInt32), (.int u1.toInt8.toInt32.toInt8.toInt32)] (.int (0 : Int32))
set_option maxRecDepth 65536 in
set_option maxHeartbeats 40000000 in
theorem rm19 (l : Launch) (Z : State) (a0 : Array Value) (hw : ∀ d ∈ tables_1, d.before a0 Z = true) (ws : List Jvm.Cond) (ca : Addr) (ba : Addr) (kc : ClassId) (u0 : Int32) (u1 : Int32) (kb : ClassId) (h0 : Heap) (n0 : Nat) (Z0 : n0 ≤ h0.size) (Arv_0 : Arv Z h0 ca kc .char (2 : Int32) [(.int u0), (.int u1)] (.int (0 : Int32))) (Arv_1 : Arv Z h0 ba kb .byte (2 : Int32) [(.int (0 : Int32)), (.int (0 : Int32))] (.int (0 : Int32))) (ge_2 : n0 ≤ ba) (ne_3 : ca ≠ ba) (B0 : ¬ (255 : Int32) < u0) (B1 : ¬ (255 : Int32) < u1) :
    MetFree l (⟨"java/lang/StringUTF16", "compress", "([CI[BII)I"⟩ : MethodName) (head1 (Jvm.Cond.code (⟨"java/lang/StringUTF16", "compress", "([CI[BII)I"⟩ : MethodName) jdk_52_method_21_code 7 (some .int) :: ws) ({ frames := 0, cells := 0, slots := 0, locals := 0 } : Room)) (fun A9 U9 => A9 = #[(.ref ca), (.int (0 : Int32)), (.ref ba), (.int (0 : Int32)), (.int (2 : Int32))] ∧ Z.Warmed39 U9.vm ∧ U9.heap = h0) (fun _ _ _ _ _ => True) (fun _ U9 o9 V9 => ∃ v9 L9, o9 = .returned v9 ∧ (Q19 Z ca ba kc u0 u1 kb h0 n0) v9 V9.heap L9 ∧ FrameEnd U9 o9 V9 L9 ({ frames := 0, cells := 0, slots := 0, locals := 0 } : Room).cells ({ frames := 0, cells := 0, slots := 0, locals := 0 } : Room).slots) := by
  refine met_of (Q := (Q19 Z ca ba kc u0 u1 kb h0 n0)) pn_19 ?_
  intro p e s m below meth c T0 C X0 e0
  have N0 := Fr.nil n0
  refine Go.cast (ef_19 m ca ba) ?_
  refine wiconst C X0 f19_0 (0 : Int32) rfl ?_
  refine wistore C X0 f19_1 #[.val (.ref ca), .val (.int (0 : Int32)), .val (.ref ba), .val (.int (0 : Int32)), .val (.int (2 : Int32)), .val (.int (0 : Int32)), .unset] rfl ?_
  refine wiload C X0 f19_3 rfl ?_
  refine wiload C X0 f19_5 rfl ?_
  refine wicmp_ge C X0 f19_7 ?_ (fun q => absurd (by decide : ((0 : Int32) < (2 : Int32))) q)
  intro _
  refine waloadN C X0 f19_10 rfl rfl ?_
  refine wiloadN C X0 f19_11 rfl ?_
  refine wcaload C X0 e0 Arv_0 f19_12 ⟨by decide, by decide⟩ (i := 0) rfl (v := u0) rfl ?_
  refine wistore C X0 f19_13 #[.val (.ref ca), .val (.int (0 : Int32)), .val (.ref ba), .val (.int (0 : Int32)), .val (.int (2 : Int32)), .val (.int (0 : Int32)), .val (.int u0)] rfl ?_
  refine wiload C X0 f19_15 rfl ?_
  refine wsipush C X0 f19_17 (255 : Int32) bp_s_255 ?_
  refine wicmp_le C X0 f19_20 (fun q => absurd q B0) ?_
  intro _
  refine waloadN C X0 f19_26 rfl rfl ?_
  refine wiloadN C X0 f19_27 rfl ?_
  refine wiload C X0 f19_28 rfl ?_
  refine wi2b C X0 f19_30 ?_
  refine wbastoreB C X0 e0 Arv_1 f19_31 ⟨by decide, by decide⟩ 0 rfl (show (0 : Nat) < 2 by decide) [(.int u0.toInt8.toInt32.toInt8.toInt32), (.int (0 : Int32))] rfl ?_
  intro T1 h1 sl1 w1 X1 e1 W1 V1
  have N1 := Fr.snoc X1 N0 ge_2
  refine wiinc C X1 f19_32 (1 : Int32) (by decide) rfl #[.val (.ref ca), .val (.int (1 : Int32)), .val (.ref ba), .val (.int (0 : Int32)), .val (.int (2 : Int32)), .val (.int (0 : Int32)), .val (.int u0)] rfl ?_
  refine wiinc C X1 f19_35 (1 : Int32) (by decide) rfl #[.val (.ref ca), .val (.int (1 : Int32)), .val (.ref ba), .val (.int (1 : Int32)), .val (.int (2 : Int32)), .val (.int (0 : Int32)), .val (.int u0)] rfl ?_
  refine wiinc C X1 f19_38 (1 : Int32) (by decide) rfl #[.val (.ref ca), .val (.int (1 : Int32)), .val (.ref ba), .val (.int (1 : Int32)), .val (.int (2 : Int32)), .val (.int (1 : Int32)), .val (.int u0)] rfl ?_
  refine wgoto C X1 f19_41 ?_
  refine wiload C X1 f19_3 rfl ?_
  refine wiload C X1 f19_5 rfl ?_
  refine wicmp_ge C X1 f19_7 ?_ (fun q => absurd (by decide : ((1 : Int32) < (2 : Int32))) q)
  intro _
  refine waloadN C X1 f19_10 rfl rfl ?_
  refine wiloadN C X1 f19_11 rfl ?_
  refine wcaload C X1 e1 (Arv_0.other W1 ne_3) f19_12 ⟨by decide, by decide⟩ (i := 1) rfl (v := u1) rfl ?_
  refine wistore C X1 f19_13 #[.val (.ref ca), .val (.int (1 : Int32)), .val (.ref ba), .val (.int (1 : Int32)), .val (.int (2 : Int32)), .val (.int (1 : Int32)), .val (.int u1)] rfl ?_
  refine wiload C X1 f19_15 rfl ?_
  refine wsipush C X1 f19_17 (255 : Int32) bp_s_255 ?_
  refine wicmp_le C X1 f19_20 (fun q => absurd q B1) ?_
  intro _
  refine waloadN C X1 f19_26 rfl rfl ?_
  refine wiloadN C X1 f19_27 rfl ?_
  refine wiload C X1 f19_28 rfl ?_
  refine wi2b C X1 f19_30 ?_
  refine wbastoreB C X1 e1 V1 f19_31 ⟨by decide, by decide⟩ 1 rfl (show (1 : Nat) < 2 by decide) [(.int u0.toInt8.toInt32.toInt8.toInt32), (.int u1.toInt8.toInt32.toInt8.toInt32)] rfl ?_
  intro T2 h2 sl2 w2 X2 e2 W2 V2
  have N2 := Fr.snoc X2 N1 ge_2
  refine wiinc C X2 f19_32 (2 : Int32) (by decide) rfl #[.val (.ref ca), .val (.int (2 : Int32)), .val (.ref ba), .val (.int (1 : Int32)), .val (.int (2 : Int32)), .val (.int (1 : Int32)), .val (.int u1)] rfl ?_
  refine wiinc C X2 f19_35 (2 : Int32) (by decide) rfl #[.val (.ref ca), .val (.int (2 : Int32)), .val (.ref ba), .val (.int (2 : Int32)), .val (.int (2 : Int32)), .val (.int (1 : Int32)), .val (.int u1)] rfl ?_
  refine wiinc C X2 f19_38 (2 : Int32) (by decide) rfl #[.val (.ref ca), .val (.int (2 : Int32)), .val (.ref ba), .val (.int (2 : Int32)), .val (.int (2 : Int32)), .val (.int (2 : Int32)), .val (.int u1)] rfl ?_
  refine wgoto C X2 f19_41 ?_
  refine wiload C X2 f19_3 rfl ?_
  refine wiload C X2 f19_5 rfl ?_
  refine wicmp_ge C X2 f19_7 (fun q => absurd q (by decide : ¬ ((2 : Int32) < (2 : Int32)))) ?_
  intro _
  refine wiload C X2 f19_44 rfl ?_
  refine wiret C X2 f19_46 rfl (by decide) (by decide) ?_
  rw [e2]
  have q3 := (((Keep.refl h0 [ba]).wr W1 (Or.inl (List.mem_of_getElem? (i := 0) rfl))).wr W2 (Or.inl (List.mem_of_getElem? (i := 0) rfl)))
  exact ⟨rfl, N2, q3, V2⟩
theorem f18_0 : Dec jdk_52_method_16_code 0 (.iload_n 2) 1 1 := ⟨by decide +kernel, rfl⟩
theorem f18_1 : Dec jdk_52_method_16_code 1 (.newarray .byte) 2 3 := ⟨by decide +kernel, rfl⟩
theorem f18_3 : Dec jdk_52_method_16_code 3 (.astore_n 3) 1 4 := ⟨by decide +kernel, rfl⟩
theorem f18_4 : Dec jdk_52_method_16_code 4 (.aload_n 0) 1 5 := ⟨by decide +kernel, rfl⟩
theorem f18_5 : Dec jdk_52_method_16_code 5 (.iload_n 1) 1 6 := ⟨by decide +kernel, rfl⟩
theorem f18_6 : Dec jdk_52_method_16_code 6 (.aload_n 3) 1 7 := ⟨by decide +kernel, rfl⟩
theorem f18_7 : Dec jdk_52_method_16_code 7 (.iconst 0) 1 8 := ⟨by decide +kernel, rfl⟩
theorem f18_8 : Dec jdk_52_method_16_code 8 (.iload_n 2) 1 9 := ⟨by decide +kernel, rfl⟩
theorem f18_9 : Dec jdk_52_method_16_code 9 (.invokestatic 115) 3 12 := ⟨by decide +kernel, rfl⟩
theorem f18_12 : Dec jdk_52_method_16_code 12 (.istore 4) 2 14 := ⟨by decide +kernel, rfl⟩
theorem f18_14 : Dec jdk_52_method_16_code 14 (.iload 4) 2 16 := ⟨by decide +kernel, rfl⟩
theorem f18_16 : Dec jdk_52_method_16_code 16 (.iload_n 2) 1 17 := ⟨by decide +kernel, rfl⟩
theorem f18_17 : DecJ jdk_52_method_16_code 17 (.if_icmp .eq 40) 40 57 20 := ⟨by decide +kernel, by decide, by decide, rfl⟩
theorem f18_57 : Dec jdk_52_method_16_code 57 (.aload_n 3) 1 58 := ⟨by decide +kernel, rfl⟩
theorem f18_58 : Dec jdk_52_method_16_code 58 (.areturn) 1 59 := ⟨by decide +kernel, rfl⟩
theorem pn_18 : plainFor (⟨"java/lang/StringUTF16", "compress", "([CII)[B"⟩ : MethodName) = true := plainFor_of_name (show plainName "java/lang/StringUTF16" = true by first | (simp [plainName, overriddenIn]; done) | decide +kernel)
theorem ef_18 (m : MethodId) (ca : Addr) : entryFrame m #[(.ref ca), (.int (0 : Int32)), (.int (2 : Int32))] 6 = mkF m 0 #[.val (.ref ca), .val (.int (0 : Int32)), .val (.int (2 : Int32)), .unset, .unset, .unset] [] := by first | (simp [entryFrame, mkF, argsToLocals, Value.category]; done) | rfl
def Q18 (Z : State) (ca : Addr) (kc : ClassId) (u0 : Int32) (u1 : Int32) (h0 : Heap) (n0 : Nat) (v9 : Option Value) (h9 : Heap) (L9 : List Loc) : Prop := ∃ (b9 : Addr), ∃ (k9 : ClassId), v9 = some (.ref b9) ∧ Fr n0 L9 ∧ Keep h0 h9 [] ∧ h0.size ≤ b9 ∧ Arv Z h9 b9 k9 .byte (2 : Int32) [(.int u0.toInt8.toInt32.toInt8.toInt32), (.int u1.toInt8.toInt32.toInt8.toInt32)] (.int (0 : Int32))
set_option maxRecDepth 65536 in
set_option maxHeartbeats 40000000 in
theorem rm18 (l : Launch) (Z : State) (a0 : Array Value) (hw : ∀ d ∈ tables_1, d.before a0 Z = true) (ws : List Jvm.Cond) (ca : Addr) (kc : ClassId) (u0 : Int32) (u1 : Int32) (h0 : Heap) (n0 : Nat) (Z0 : n0 ≤ h0.size) (Arv_0 : Arv Z h0 ca kc .char (2 : Int32) [(.int u0), (.int u1)] (.int (0 : Int32))) (B0 : ¬ (255 : Int32) < u0) (B1 : ¬ (255 : Int32) < u1) :
    MetFree l (⟨"java/lang/StringUTF16", "compress", "([CII)[B"⟩ : MethodName) (head1 (Jvm.Cond.code (⟨"java/lang/StringUTF16", "compress", "([CII)[B"⟩ : MethodName) jdk_52_method_16_code 6 (some (.array .byte)) :: ws) ({ frames := 1, cells := 1, slots := 2, locals := 18 } : Room)) (fun A9 U9 => A9 = #[(.ref ca), (.int (0 : Int32)), (.int (2 : Int32))] ∧ Z.Warmed39 U9.vm ∧ U9.heap = h0) (fun _ _ _ _ _ => True) (fun _ U9 o9 V9 => ∃ v9 L9, o9 = .returned v9 ∧ (Q18 Z ca kc u0 u1 h0 n0) v9 V9.heap L9 ∧ FrameEnd U9 o9 V9 L9 ({ frames := 1, cells := 1, slots := 2, locals := 18 } : Room).cells ({ frames := 1, cells := 1, slots := 2, locals := 18 } : Room).slots) := by
  refine met_of (Q := (Q18 Z ca kc u0 u1 h0 n0)) pn_18 ?_
  intro p e s m below meth c T0 C X0 e0
  have N0 := Fr.nil n0
  refine Go.cast (ef_18 m ca) ?_
  refine wiloadN C X0 f18_0 rfl ?_
  refine wnewarrE C X0 (aty := .byte) (ad := "[B") (tw_117 hw) (by decide) e0 f18_1 (by decide) (cap := 2) (by decide) (by decide) (by decide) (by decide) ?_
  intro T1 h1 b1 k1 g1 X1 e1 E1 V1 Ea1
  have sz1 : h0.size ≤ b1 := Nat.le_trans (Nat.le_refl h0.size) (Nat.le_of_eq g1.symm)
  have Vp1 : Arv Z h1 b1 k1 .byte (2 : Int32) [(.int (0 : Int32)), (.int (0 : Int32))] (.int (0 : Int32)) := Arv.pad V1 (pad_rep [] (.int (0 : Int32)) 2)
  refine wastoreN C X1 f18_3 #[.val (.ref ca), .val (.int (0 : Int32)), .val (.int (2 : Int32)), .val (.ref b1), .unset, .unset] rfl rfl ?_
  refine waloadN C X1 f18_4 rfl rfl ?_
  refine wiloadN C X1 f18_5 rfl ?_
  refine waloadN C X1 f18_6 rfl rfl ?_
  refine wiconst C X1 f18_7 (0 : Int32) rfl ?_
  refine wiloadN C X1 f18_8 rfl ?_
  have ne3 : ca ≠ b1 := (Nat.ne_of_lt (Nat.lt_of_lt_of_le Arv_0.lt (Nat.le_of_eq g1.symm)))
  refine wstatic C X1 (y := (⟨"java/lang/StringUTF16", "compress", "([CI[BII)I"⟩ : MethodName)) (tw_118 hw) (tw_119 hw) (tw_115 hw) (tw_120 hw) (by decide) (rm19 l Z a0 hw [] ca b1 kc u0 u1 k1 h1 n0 (Nat.le_trans Z0 E1.1) (Arv_0.ext E1) Vp1 (Nat.le_trans Z0 sz1) ne3 B0 B1) e1 f18_9 (argsL := [(.ref ca), (.int (0 : Int32)), (.ref b1), (.int (0 : Int32)), (.int (2 : Int32))]) (rest := []) rfl rfl (lenOf pd_7 rfl) rfl (W := 0) (Nat.le_of_eq rfl) (by decide) (by decide) (by decide) (by decide) ?_
  intro v2 T2 L2 X2 q2
  obtain ⟨rfl, Nq2, K2, G2_0⟩ := q2
  have N2 := Fr.app N0 Nq2
  show Go p e below s _ _ _ T2 (mkF m 12 #[.val (.ref ca), .val (.int (0 : Int32)), .val (.int (2 : Int32)), .val (.ref b1), .unset, .unset] [(.int (2 : Int32))])
  refine wistore C X2 f18_12 #[.val (.ref ca), .val (.int (0 : Int32)), .val (.int (2 : Int32)), .val (.ref b1), .val (.int (2 : Int32)), .unset] rfl ?_
  refine wiload C X2 f18_14 rfl ?_
  refine wiloadN C X2 f18_16 rfl ?_
  refine wicmp_eq C X2 f18_17 ?_ (fun q => absurd (by decide : ((2 : Int32) = (2 : Int32))) q)
  intro _
  refine waloadN C X2 f18_57 rfl rfl ?_
  refine waret C X2 f18_58 rfl rfl rfl rfl (by decide) (by decide) ?_
  have q4 := (((Keep.refl h0 []).ext E1).trans K2 (allS (Or.inr sz1) all0))
  exact ⟨b1, k1, rfl, N2, q4, sz1, G2_0⟩
theorem f17_0 : Dec jdk_42_method_149_code 0 (.aload_n 0) 1 1 := ⟨by decide +kernel, rfl⟩
theorem f17_1 : Dec jdk_42_method_149_code 1 (.invokespecial 1) 3 4 := ⟨by decide +kernel, rfl⟩
theorem f17_4 : Dec jdk_42_method_149_code 4 (.iload_n 3) 1 5 := ⟨by decide +kernel, rfl⟩
theorem f17_5 : DecJ jdk_42_method_149_code 5 (.ifCond .ne 22) 22 27 8 := ⟨by decide +kernel, by decide, by decide, rfl⟩
theorem f17_27 : Dec jdk_42_method_149_code 27 (.getstatic 38) 3 30 := ⟨by decide +kernel, rfl⟩
theorem f17_30 : DecJ jdk_42_method_149_code 30 (.ifCond .eq 28) 28 58 33 := ⟨by decide +kernel, by decide, by decide, rfl⟩
theorem f17_33 : Dec jdk_42_method_149_code 33 (.aload_n 1) 1 34 := ⟨by decide +kernel, rfl⟩
theorem f17_34 : Dec jdk_42_method_149_code 34 (.iload_n 2) 1 35 := ⟨by decide +kernel, rfl⟩
theorem f17_35 : Dec jdk_42_method_149_code 35 (.iload_n 3) 1 36 := ⟨by decide +kernel, rfl⟩
theorem f17_36 : Dec jdk_42_method_149_code 36 (.invokestatic 177) 3 39 := ⟨by decide +kernel, rfl⟩
theorem f17_39 : Dec jdk_42_method_149_code 39 (.astore 5) 2 41 := ⟨by decide +kernel, rfl⟩
theorem f17_41 : Dec jdk_42_method_149_code 41 (.aload_n 0) 1 42 := ⟨by decide +kernel, rfl⟩
theorem f17_42 : Dec jdk_42_method_149_code 42 (.aload 5) 2 44 := ⟨by decide +kernel, rfl⟩
theorem f17_44 : Dec jdk_42_method_149_code 44 (.iload_n 3) 1 45 := ⟨by decide +kernel, rfl⟩
theorem f17_45 : Dec jdk_42_method_149_code 45 (.invokestatic 47) 3 48 := ⟨by decide +kernel, rfl⟩
theorem f17_48 : Dec jdk_42_method_149_code 48 (.putfield 15) 3 51 := ⟨by decide +kernel, rfl⟩
theorem f17_51 : Dec jdk_42_method_149_code 51 (.aload_n 0) 1 52 := ⟨by decide +kernel, rfl⟩
theorem f17_52 : Dec jdk_42_method_149_code 52 (.aload 5) 2 54 := ⟨by decide +kernel, rfl⟩
theorem f17_54 : Dec jdk_42_method_149_code 54 (.putfield 9) 3 57 := ⟨by decide +kernel, rfl⟩
theorem f17_57 : Dec jdk_42_method_149_code 57 (.return_) 1 58 := ⟨by decide +kernel, rfl⟩
theorem pn_17 : plainFor (⟨"java/lang/String", "<init>", "([CIILjava/lang/Void;)V"⟩ : MethodName) = true := plainFor_of_name (show plainName "java/lang/String" = true by first | (simp [plainName, overriddenIn]; done) | decide +kernel)
theorem ef_17 (m : MethodId) (a : Addr) (ca : Addr) : entryFrame m #[(.ref a), (.ref ca), (.int (0 : Int32)), (.int (2 : Int32)), .null] 6 = mkF m 0 #[.val (.ref a), .val (.ref ca), .val (.int (0 : Int32)), .val (.int (2 : Int32)), .val .null, .unset] [] := by first | (simp [entryFrame, mkF, argsToLocals, Value.category]; done) | rfl
def Q17 (Z : State) (a : Addr) (ca : Addr) (kc : ClassId) (u0 : Int32) (u1 : Int32) (cs : Int32) (h0 : Heap) (n0 : Nat) (v9 : Option Value) (h9 : Heap) (L9 : List Loc) : Prop := v9 = none ∧ Fr n0 L9 ∧ Keep h0 h9 [a]
set_option maxRecDepth 65536 in
set_option maxHeartbeats 40000000 in
theorem rm17 (l : Launch) (Z : State) (a0 : Array Value) (hw : ∀ d ∈ tables_1, d.before a0 Z = true) (ws : List Jvm.Cond) (a : Addr) (ca : Addr) (kc : ClassId) (u0 : Int32) (u1 : Int32) (cs : Int32) (h0 : Heap) (n0 : Nat) (Z0 : n0 ≤ h0.size) (Exa_0 : Exa Z h0 a "java/lang/String") (Fld_1 : Fld Z h0 a "java/lang/String" "coder" "B" (.int (0 : Int32))) (Fld_2 : Fld Z h0 a "java/lang/String" "value" "[B" .null) (Arv_3 : Arv Z h0 ca kc .char (2 : Int32) [(.int u0), (.int u1)] (.int (0 : Int32))) (Sta_4 : Sta Z h0 "java/lang/String" "COMPACT_STRINGS" "Z" (.int cs)) (hcs : ¬ cs = (0 : Int32)) (ge_6 : n0 ≤ a) (B0 : ¬ (255 : Int32) < u0) (B1 : ¬ (255 : Int32) < u1) :
    MetFree l (⟨"java/lang/String", "<init>", "([CIILjava/lang/Void;)V"⟩ : MethodName) (head1 (Jvm.Cond.code (⟨"java/lang/String", "<init>", "([CIILjava/lang/Void;)V"⟩ : MethodName) jdk_42_method_149_code 6 none :: ws) ({ frames := 2, cells := 1, slots := 2, locals := 35 } : Room)) (fun A9 U9 => A9 = #[(.ref a), (.ref ca), (.int (0 : Int32)), (.int (2 : Int32)), .null] ∧ Z.Warmed39 U9.vm ∧ U9.heap = h0) (fun _ _ _ _ _ => True) (fun _ U9 o9 V9 => ∃ v9 L9, o9 = .returned v9 ∧ (Q17 Z a ca kc u0 u1 cs h0 n0) v9 V9.heap L9 ∧ FrameEnd U9 o9 V9 L9 ({ frames := 2, cells := 1, slots := 2, locals := 35 } : Room).cells ({ frames := 2, cells := 1, slots := 2, locals := 35 } : Room).slots) := by
  refine met_of (Q := (Q17 Z a ca kc u0 u1 cs h0 n0)) pn_17 ?_
  intro p e s m below meth c T0 C X0 e0
  have N0 := Fr.nil n0
  refine Go.cast (ef_17 m a ca) ?_
  refine waloadN C X0 f17_0 rfl rfl ?_
  refine winitO C X0 (tw_111 hw) (tw_16 hw) (tw_17 hw) e0 f17_1 rfl (by decide) (W := 0) (Nat.le_of_eq rfl) (by decide) ?_
  intro T1 X1 e1
  refine wiloadN C X1 f17_4 rfl ?_
  refine wif_ne C X1 f17_5 (fun q => absurd q (by decide : ¬ ((2 : Int32) = (0 : Int32)))) ?_
  intro _
  refine wgets C X1 (host := "") (Or.inl (tw_112 hw)) Via.refl e1 Sta_4 f17_27 ?_
  intro T2 X2 e2
  refine wif_eq C X2 f17_30 (fun q => absurd q hcs) ?_
  intro _
  refine waloadN C X2 f17_33 rfl rfl ?_
  refine wiloadN C X2 f17_34 rfl ?_
  refine wiloadN C X2 f17_35 rfl ?_
  refine wstatic C X2 (y := (⟨"java/lang/StringUTF16", "compress", "([CII)[B"⟩ : MethodName)) (tw_113 hw) (tw_114 hw) (tw_115 hw) (tw_116 hw) (by decide) (rm18 l Z a0 hw [] ca kc u0 u1 h0 n0 Z0 Arv_3 B0 B1) e2 f17_36 (argsL := [(.ref ca), (.int (0 : Int32)), (.int (2 : Int32))]) (rest := []) rfl rfl (lenOf pd_8 rfl) rfl (W := 0) (Nat.le_of_eq rfl) (by decide) (by decide) (by decide) (by decide) ?_
  intro v3 T3 L3 X3 q3
  obtain ⟨b9_3, k9_3, rfl, Nq3, K3, G3_0, G3_1⟩ := q3
  have Sk3_0 := own_sta_keep Sta_4 K3 all0
  have szG3_0 : h0.size ≤ b9_3 := Nat.le_trans (Nat.le_refl h0.size) G3_0
  have N3 := Fr.app N0 Nq3
  show Go p e below s _ _ _ T3 (mkF m 39 #[.val (.ref a), .val (.ref ca), .val (.int (0 : Int32)), .val (.int (2 : Int32)), .val .null, .unset] [(.ref b9_3)])
  refine wastore C X3 f17_39 #[.val (.ref a), .val (.ref ca), .val (.int (0 : Int32)), .val (.int (2 : Int32)), .val .null, .val (.ref b9_3)] rfl rfl ?_
  refine waloadN C X3 f17_41 rfl rfl ?_
  refine waload C X3 f17_42 rfl rfl ?_
  refine wiloadN C X3 f17_44 rfl ?_
  refine wstatic C X3 (y := (⟨"java/lang/StringUTF16", "coderFromArrayLen", "([BI)B"⟩ : MethodName)) (tw_121 hw) (tw_122 hw) (tw_115 hw) (tw_123 hw) (by decide) (rm20 l Z a0 hw [] b9_3 k9_3 [(.int u0.toInt8.toInt32.toInt8.toInt32), (.int u1.toInt8.toInt32.toInt8.toInt32)] T3.heap n0 (Nat.le_trans Z0 K3.1) G3_1) rfl f17_45 (argsL := [(.ref b9_3), (.int (2 : Int32))]) (rest := [(.ref a)]) rfl rfl (lenOf pd_9 rfl) rfl (W := 1) (Nat.le_of_eq rfl) (by decide) (by decide) (by decide) (by decide) ?_
  intro v4 T4 L4 X4 q4
  obtain ⟨rfl, Nq4, eq4⟩ := q4
  have N4 := Fr.app N3 Nq4
  show Go p e below s _ _ _ T4 (mkF m 48 #[.val (.ref a), .val (.ref ca), .val (.int (0 : Int32)), .val (.int (2 : Int32)), .val .null, .val (.ref b9_3)] [(.int (0 : Int32)), (.ref a)])
  refine wputN C X4 (tw_124 hw) Via.refl eq4 (Fld_1.keep K3 nin0) (Exa_0.keep K3) (Or.inr ⟨(tw_125 hw), rfl, rfl⟩) (tw_102 hw) (ty := .byte) (by decide) (.int (0 : Int32)) rfl (by decide) f17_48 ?_
  intro T5 h5 X5 e5 W5
  have Fw5 := (Fld_1.keep K3 nin0).same W5
  have N5 := Fr.snoc X5 N4 ge_6
  refine waloadN C X5 f17_51 rfl rfl ?_
  refine waload C X5 f17_52 rfl rfl ?_
  have q6 := ((Fld_2.keep K3 nin0).other W5 (Or.inr (slot_ne (Or.inr (tw_127 hw)) (Or.inr (tw_125 hw)) (by decide) (t := (.array .byte)) (t' := .byte) (by decide) (by decide))))
  refine wput C X5 (host := "") (Or.inl (tw_126 hw)) Via.refl e5 q6 ((Exa_0.keep K3).wr W5) (Or.inr ⟨(tw_127 hw), rfl, rfl⟩) (tw_102 hw) (ty := (.array .byte)) (by decide) rfl rfl f17_54 ?_
  intro T7 h7 X7 e7 W7
  have Fw7 := q6.same W7
  have N7 := Fr.snoc X7 N5 ge_6
  refine wret C X7 f17_57 rfl (by decide) (by decide) ?_
  rw [e7]
  have q8 := ((((Keep.refl h0 [a]).trans K3 all0).wr W5 (Or.inl (List.mem_of_getElem? (i := 0) rfl))).wr W7 (Or.inl (List.mem_of_getElem? (i := 0) rfl)))
  exact ⟨rfl, N7, q8⟩
theorem f16_0 : Dec jdk_42_method_3_code 0 (.aload_n 0) 1 1 := ⟨by decide +kernel, rfl⟩
theorem f16_1 : Dec jdk_42_method_3_code 1 (.aload_n 1) 1 2 := ⟨by decide +kernel, rfl⟩
theorem f16_2 : Dec jdk_42_method_3_code 2 (.iconst 0) 1 3 := ⟨by decide +kernel, rfl⟩
theorem f16_3 : Dec jdk_42_method_3_code 3 (.aload_n 1) 1 4 := ⟨by decide +kernel, rfl⟩
theorem f16_4 : Dec jdk_42_method_3_code 4 (.arraylength) 1 5 := ⟨by decide +kernel, rfl⟩
theorem f16_5 : Dec jdk_42_method_3_code 5 (.aconst_null) 1 6 := ⟨by decide +kernel, rfl⟩
theorem f16_6 : Dec jdk_42_method_3_code 6 (.invokespecial 27) 3 9 := ⟨by decide +kernel, rfl⟩
theorem f16_9 : Dec jdk_42_method_3_code 9 (.return_) 1 10 := ⟨by decide +kernel, rfl⟩
theorem pn_16 : plainFor (⟨"java/lang/String", "<init>", "([C)V"⟩ : MethodName) = true := plainFor_of_name (show plainName "java/lang/String" = true by first | (simp [plainName, overriddenIn]; done) | decide +kernel)
theorem ef_16 (m : MethodId) (a : Addr) (ca : Addr) : entryFrame m #[(.ref a), (.ref ca)] 2 = mkF m 0 #[.val (.ref a), .val (.ref ca)] [] := by first | (simp [entryFrame, mkF, argsToLocals, Value.category]; done) | rfl
def Q16 (Z : State) (a : Addr) (ca : Addr) (kc : ClassId) (u0 : Int32) (u1 : Int32) (cs : Int32) (h0 : Heap) (n0 : Nat) (v9 : Option Value) (h9 : Heap) (L9 : List Loc) : Prop := v9 = none ∧ Fr n0 L9 ∧ Keep h0 h9 [a]
set_option maxRecDepth 65536 in
set_option maxHeartbeats 40000000 in
theorem rm16 (l : Launch) (Z : State) (a0 : Array Value) (hw : ∀ d ∈ tables_1, d.before a0 Z = true) (ws : List Jvm.Cond) (a : Addr) (ca : Addr) (kc : ClassId) (u0 : Int32) (u1 : Int32) (cs : Int32) (h0 : Heap) (n0 : Nat) (Z0 : n0 ≤ h0.size) (Exa_0 : Exa Z h0 a "java/lang/String") (Fld_1 : Fld Z h0 a "java/lang/String" "coder" "B" (.int (0 : Int32))) (Fld_2 : Fld Z h0 a "java/lang/String" "value" "[B" .null) (Arv_3 : Arv Z h0 ca kc .char (2 : Int32) [(.int u0), (.int u1)] (.int (0 : Int32))) (Sta_4 : Sta Z h0 "java/lang/String" "COMPACT_STRINGS" "Z" (.int cs)) (hcs : ¬ cs = (0 : Int32)) (ge_6 : n0 ≤ a) (B0 : ¬ (255 : Int32) < u0) (B1 : ¬ (255 : Int32) < u1) :
    MetFree l (⟨"java/lang/String", "<init>", "([C)V"⟩ : MethodName) (head1 (Jvm.Cond.code (⟨"java/lang/String", "<init>", "([C)V"⟩ : MethodName) jdk_42_method_3_code 2 none :: ws) ({ frames := 3, cells := 1, slots := 2, locals := 52 } : Room)) (fun A9 U9 => A9 = #[(.ref a), (.ref ca)] ∧ Z.Warmed39 U9.vm ∧ U9.heap = h0) (fun _ _ _ _ _ => True) (fun _ U9 o9 V9 => ∃ v9 L9, o9 = .returned v9 ∧ (Q16 Z a ca kc u0 u1 cs h0 n0) v9 V9.heap L9 ∧ FrameEnd U9 o9 V9 L9 ({ frames := 3, cells := 1, slots := 2, locals := 52 } : Room).cells ({ frames := 3, cells := 1, slots := 2, locals := 52 } : Room).slots) := by
  refine met_of (Q := (Q16 Z a ca kc u0 u1 cs h0 n0)) pn_16 ?_
  intro p e s m below meth c T0 C X0 e0
  have N0 := Fr.nil n0
  refine Go.cast (ef_16 m a ca) ?_
  refine waloadN C X0 f16_0 rfl rfl ?_
  refine waloadN C X0 f16_1 rfl rfl ?_
  refine wiconst C X0 f16_2 (0 : Int32) rfl ?_
  refine waloadN C X0 f16_3 rfl rfl ?_
  refine walen C X0 e0 Arv_3 f16_4 ?_
  refine wnull C X0 f16_5 ?_
  refine wspecial C X0 (y := (⟨"java/lang/String", "<init>", "([CIILjava/lang/Void;)V"⟩ : MethodName)) rfl (tw_107 hw) (tw_108 hw) (tw_110 hw) (tw_103 hw) rfl (by decide) (rm17 l Z a0 hw [] a ca kc u0 u1 cs h0 n0 Z0 Exa_0 Fld_1 Fld_2 Arv_3 Sta_4 hcs ge_6 B0 B1) e0 f16_6 (a := a) (argsL := [(.ref ca), (.int (0 : Int32)), (.int (2 : Int32)), .null]) (rest := []) rfl rfl (lenOf pd_10 rfl) rfl (W := 0) (Nat.le_of_eq rfl) (by decide) (by decide) (by decide) (by decide) ?_
  intro v1 T1 L1 X1 q1
  obtain ⟨rfl, Nq1, K1⟩ := q1
  have Sk1_0 := own_sta_keep Sta_4 K1 (allS (own_ns_exa Exa_0) all0)
  have N1 := Fr.app N0 Nq1
  show Go p e below s _ _ _ T1 (mkF m 9 #[.val (.ref a), .val (.ref ca)] [])
  refine wret C X1 f16_9 rfl (by decide) (by decide) ?_
  have q2 := ((Keep.refl h0 [a]).trans K1 (allS (Or.inl (List.mem_of_getElem? (i := 0) rfl)) all0))
  exact ⟨rfl, N1, q2⟩
theorem f2_0 : Dec prog_16_method_1_code 0 (.aload_n 0) 1 1 := ⟨by decide +kernel, rfl⟩
theorem f2_1 : Dec prog_16_method_1_code 1 (.invokespecial 1) 3 4 := ⟨by decide +kernel, rfl⟩
theorem f2_4 : Dec prog_16_method_1_code 4 (.aload_n 0) 1 5 := ⟨by decide +kernel, rfl⟩
theorem f2_5 : Dec prog_16_method_1_code 5 (.aload_n 1) 1 6 := ⟨by decide +kernel, rfl⟩
theorem f2_6 : Dec prog_16_method_1_code 6 (.putfield 7) 3 9 := ⟨by decide +kernel, rfl⟩
theorem f2_9 : Dec prog_16_method_1_code 9 (.aload_n 0) 1 10 := ⟨by decide +kernel, rfl⟩
theorem f2_10 : Dec prog_16_method_1_code 10 (.aload_n 2) 1 11 := ⟨by decide +kernel, rfl⟩
theorem f2_11 : Dec prog_16_method_1_code 11 (.putfield 13) 3 14 := ⟨by decide +kernel, rfl⟩
theorem f2_14 : Dec prog_16_method_1_code 14 (.return_) 1 15 := ⟨by decide +kernel, rfl⟩
theorem pn_2 : plainFor (⟨"io/invocant/cli/Expression$Value", "<init>", "(Ljava/lang/Class;Ljava/lang/Object;)V"⟩ : MethodName) = true := plainFor_of_name (show plainName "io/invocant/cli/Expression$Value" = true by first | (simp [plainName, overriddenIn]; done) | decide +kernel)
theorem ef_2n (m : MethodId) (vo : Addr) : entryFrame m #[(.ref vo), .null, .null] 3 = mkF m 0 #[.val (.ref vo), .val .null, .val .null] [] := by first | (simp [entryFrame, mkF, argsToLocals, Value.category]; done) | rfl
def Q2n (Z : State) (vo : Addr) (h0 : Heap) (n0 : Nat) (v9 : Option Value) (h9 : Heap) (L9 : List Loc) : Prop := v9 = none ∧ Fr n0 L9 ∧ Keep h0 h9 [vo] ∧ Fld Z h9 vo "io/invocant/cli/Expression$Value" "type" "Ljava/lang/Class;" .null ∧ Fld Z h9 vo "io/invocant/cli/Expression$Value" "value" "Ljava/lang/Object;" .null
set_option maxRecDepth 65536 in
set_option maxHeartbeats 40000000 in
theorem rm2n (l : Launch) (Z : State) (a0 : Array Value) (hw : ∀ d ∈ tables_1, d.before a0 Z = true) (ws : List Jvm.Cond) (vo : Addr) (h0 : Heap) (n0 : Nat) (Z0 : n0 ≤ h0.size) (Exa_0 : Exa Z h0 vo "io/invocant/cli/Expression$Value") (Fld_1 : Fld Z h0 vo "io/invocant/cli/Expression$Value" "type" "Ljava/lang/Class;" .null) (Fld_2 : Fld Z h0 vo "io/invocant/cli/Expression$Value" "value" "Ljava/lang/Object;" .null) (ge_3 : n0 ≤ vo) :
    MetFree l (⟨"io/invocant/cli/Expression$Value", "<init>", "(Ljava/lang/Class;Ljava/lang/Object;)V"⟩ : MethodName) (head1 (Jvm.Cond.code (⟨"io/invocant/cli/Expression$Value", "<init>", "(Ljava/lang/Class;Ljava/lang/Object;)V"⟩ : MethodName) prog_16_method_1_code 3 none :: ws) ({ frames := 2, cells := 0, slots := 0, locals := 24 } : Room)) (fun A9 U9 => A9 = #[(.ref vo), .null, .null] ∧ Z.Warmed39 U9.vm ∧ U9.heap = h0) (fun _ _ _ _ _ => True) (fun _ U9 o9 V9 => ∃ v9 L9, o9 = .returned v9 ∧ (Q2n Z vo h0 n0) v9 V9.heap L9 ∧ FrameEnd U9 o9 V9 L9 ({ frames := 2, cells := 0, slots := 0, locals := 24 } : Room).cells ({ frames := 2, cells := 0, slots := 0, locals := 24 } : Room).slots) := by
  refine met_of (Q := (Q2n Z vo h0 n0)) pn_2 ?_
  intro p e s m below meth c T0 C X0 e0
  have N0 := Fr.nil n0
  refine Go.cast (ef_2n m vo) ?_
  refine waloadN C X0 f2_0 rfl rfl ?_
  refine wspecial C X0 (y := (⟨"java/lang/Record", "<init>", "()V"⟩ : MethodName)) rfl (tw_10 hw) (tw_11 hw) (tw_14 hw) (tw_13 hw) rfl (by decide) (rm3 l Z a0 hw [] vo h0 n0 Z0) e0 f2_1 (a := vo) (argsL := []) (rest := []) rfl rfl (lenOf pd_0 rfl) rfl (W := 0) (Nat.le_of_eq rfl) (by decide) (by decide) (by decide) (by decide) ?_
  intro v1 T1 L1 X1 q1
  obtain ⟨rfl, Nq1, eq1⟩ := q1
  have N1 := Fr.app N0 Nq1
  show Go p e below s _ _ _ T1 (mkF m 4 #[.val (.ref vo), .val .null, .val .null] [])
  refine waloadN C X1 f2_4 rfl rfl ?_
  refine waloadN C X1 f2_5 rfl rfl ?_
  refine wput C X1 (host := "") (Or.inl (tw_18 hw)) Via.refl eq1 Fld_1 Exa_0 (Or.inr ⟨(tw_19 hw), rfl, rfl⟩) (tw_6 hw) (ty := (.object "java/lang/Class")) (by decide) rfl rfl f2_6 ?_
  intro T2 h2 X2 e2 W2
  have Fw2 := Fld_1.same W2
  have N2 := Fr.snoc X2 N1 ge_3
  refine waloadN C X2 f2_9 rfl rfl ?_
  refine waloadN C X2 f2_10 rfl rfl ?_
  have q3 := (Fld_2.other W2 (Or.inr (slot_ne (Or.inr (tw_21 hw)) (Or.inr (tw_19 hw)) (by decide) (t := (.object "java/lang/Object")) (t' := (.object "java/lang/Class")) (by decide) (by decide))))
  refine wput C X2 (host := "") (Or.inl (tw_20 hw)) Via.refl e2 q3 (Exa_0.wr W2) (Or.inr ⟨(tw_21 hw), rfl, rfl⟩) (tw_6 hw) (ty := (.object "java/lang/Object")) (by decide) rfl rfl f2_11 ?_
  intro T4 h4 X4 e4 W4
  have Fw4 := q3.same W4
  have N4 := Fr.snoc X4 N2 ge_3
  refine wret C X4 f2_14 rfl (by decide) (by decide) ?_
  rw [e4]
  have q5 := (((Keep.refl h0 [vo]).wr W2 (Or.inl (List.mem_of_getElem? (i := 0) rfl))).wr W4 (Or.inl (List.mem_of_getElem? (i := 0) rfl)))
  have q6 := (Fw2.other W4 (Or.inr (slot_ne (Or.inr (tw_19 hw)) (Or.inr (tw_21 hw)) (by decide) (t := (.object "java/lang/Class")) (t' := (.object "java/lang/Object")) (by decide) (by decide))))
  exact ⟨rfl, N4, q5, q6, Fw4⟩
theorem ef_2o (m : MethodId) (vo : Addr) (ty : Addr) (va : Addr) : entryFrame m #[(.ref vo), (.ref ty), (.ref va)] 3 = mkF m 0 #[.val (.ref vo), .val (.ref ty), .val (.ref va)] [] := by first | (simp [entryFrame, mkF, argsToLocals, Value.category]; done) | rfl
def Q2o (Z : State) (vo : Addr) (ty : Addr) (va : Addr) (h0 : Heap) (n0 : Nat) (v9 : Option Value) (h9 : Heap) (L9 : List Loc) : Prop := v9 = none ∧ Fr n0 L9 ∧ Keep h0 h9 [vo] ∧ Fld Z h9 vo "io/invocant/cli/Expression$Value" "type" "Ljava/lang/Class;" (.ref ty) ∧ Fld Z h9 vo "io/invocant/cli/Expression$Value" "value" "Ljava/lang/Object;" (.ref va)
set_option maxRecDepth 65536 in
set_option maxHeartbeats 40000000 in
theorem rm2o (l : Launch) (Z : State) (a0 : Array Value) (hw : ∀ d ∈ tables_1, d.before a0 Z = true) (ws : List Jvm.Cond) (vo : Addr) (ty : Addr) (va : Addr) (h0 : Heap) (n0 : Nat) (Z0 : n0 ≤ h0.size) (Exa_0 : Exa Z h0 vo "io/invocant/cli/Expression$Value") (Fld_1 : Fld Z h0 vo "io/invocant/cli/Expression$Value" "type" "Ljava/lang/Class;" .null) (Fld_2 : Fld Z h0 vo "io/invocant/cli/Expression$Value" "value" "Ljava/lang/Object;" .null) (ge_3 : n0 ≤ vo) :
    MetFree l (⟨"io/invocant/cli/Expression$Value", "<init>", "(Ljava/lang/Class;Ljava/lang/Object;)V"⟩ : MethodName) (head1 (Jvm.Cond.code (⟨"io/invocant/cli/Expression$Value", "<init>", "(Ljava/lang/Class;Ljava/lang/Object;)V"⟩ : MethodName) prog_16_method_1_code 3 none :: ws) ({ frames := 2, cells := 0, slots := 0, locals := 24 } : Room)) (fun A9 U9 => A9 = #[(.ref vo), (.ref ty), (.ref va)] ∧ Z.Warmed39 U9.vm ∧ U9.heap = h0) (fun _ _ _ _ _ => True) (fun _ U9 o9 V9 => ∃ v9 L9, o9 = .returned v9 ∧ (Q2o Z vo ty va h0 n0) v9 V9.heap L9 ∧ FrameEnd U9 o9 V9 L9 ({ frames := 2, cells := 0, slots := 0, locals := 24 } : Room).cells ({ frames := 2, cells := 0, slots := 0, locals := 24 } : Room).slots) := by
  refine met_of (Q := (Q2o Z vo ty va h0 n0)) pn_2 ?_
  intro p e s m below meth c T0 C X0 e0
  have N0 := Fr.nil n0
  refine Go.cast (ef_2o m vo ty va) ?_
  refine waloadN C X0 f2_0 rfl rfl ?_
  refine wspecial C X0 (y := (⟨"java/lang/Record", "<init>", "()V"⟩ : MethodName)) rfl (tw_10 hw) (tw_11 hw) (tw_14 hw) (tw_13 hw) rfl (by decide) (rm3 l Z a0 hw [] vo h0 n0 Z0) e0 f2_1 (a := vo) (argsL := []) (rest := []) rfl rfl (lenOf pd_0 rfl) rfl (W := 0) (Nat.le_of_eq rfl) (by decide) (by decide) (by decide) (by decide) ?_
  intro v1 T1 L1 X1 q1
  obtain ⟨rfl, Nq1, eq1⟩ := q1
  have N1 := Fr.app N0 Nq1
  show Go p e below s _ _ _ T1 (mkF m 4 #[.val (.ref vo), .val (.ref ty), .val (.ref va)] [])
  refine waloadN C X1 f2_4 rfl rfl ?_
  refine waloadN C X1 f2_5 rfl rfl ?_
  refine wput C X1 (host := "") (Or.inl (tw_18 hw)) Via.refl eq1 Fld_1 Exa_0 (Or.inr ⟨(tw_19 hw), rfl, rfl⟩) (tw_6 hw) (ty := (.object "java/lang/Class")) (by decide) rfl rfl f2_6 ?_
  intro T2 h2 X2 e2 W2
  have Fw2 := Fld_1.same W2
  have N2 := Fr.snoc X2 N1 ge_3
  refine waloadN C X2 f2_9 rfl rfl ?_
  refine waloadN C X2 f2_10 rfl rfl ?_
  have q3 := (Fld_2.other W2 (Or.inr (slot_ne (Or.inr (tw_21 hw)) (Or.inr (tw_19 hw)) (by decide) (t := (.object "java/lang/Object")) (t' := (.object "java/lang/Class")) (by decide) (by decide))))
  refine wput C X2 (host := "") (Or.inl (tw_20 hw)) Via.refl e2 q3 (Exa_0.wr W2) (Or.inr ⟨(tw_21 hw), rfl, rfl⟩) (tw_6 hw) (ty := (.object "java/lang/Object")) (by decide) rfl rfl f2_11 ?_
  intro T4 h4 X4 e4 W4
  have Fw4 := q3.same W4
  have N4 := Fr.snoc X4 N2 ge_3
  refine wret C X4 f2_14 rfl (by decide) (by decide) ?_
  rw [e4]
  have q5 := (((Keep.refl h0 [vo]).wr W2 (Or.inl (List.mem_of_getElem? (i := 0) rfl))).wr W4 (Or.inl (List.mem_of_getElem? (i := 0) rfl)))
  have q6 := (Fw2.other W4 (Or.inr (slot_ne (Or.inr (tw_19 hw)) (Or.inr (tw_21 hw)) (by decide) (t := (.object "java/lang/Class")) (t' := (.object "java/lang/Object")) (by decide) (by decide))))
  exact ⟨rfl, N4, q5, q6, Fw4⟩
theorem f1_0 : Dec prog_16_method_2_code 0 (.new 8) 3 3 := ⟨by decide +kernel, rfl⟩
theorem f1_3 : Dec prog_16_method_2_code 3 (.dup) 1 4 := ⟨by decide +kernel, rfl⟩
theorem f1_4 : Dec prog_16_method_2_code 4 (.aload_n 0) 1 5 := ⟨by decide +kernel, rfl⟩
theorem f1_5 : DecJ prog_16_method_2_code 5 (.ifnonnull 7) 7 12 8 := ⟨by decide +kernel, by decide, by decide, rfl⟩
theorem f1_8 : Dec prog_16_method_2_code 8 (.aconst_null) 1 9 := ⟨by decide +kernel, rfl⟩
theorem f1_9 : DecJ prog_16_method_2_code 9 (.goto 7) 7 16 12 := ⟨by decide +kernel, by decide, by decide, rfl⟩
theorem f1_16 : Dec prog_16_method_2_code 16 (.aload_n 0) 1 17 := ⟨by decide +kernel, rfl⟩
theorem f1_17 : Dec prog_16_method_2_code 17 (.invokespecial 23) 3 20 := ⟨by decide +kernel, rfl⟩
theorem f1_20 : Dec prog_16_method_2_code 20 (.areturn) 1 21 := ⟨by decide +kernel, rfl⟩
theorem pn_1 : plainFor (⟨"io/invocant/cli/Expression$Value", "of", "(Ljava/lang/Object;)Lio/invocant/cli/Expression$Value;"⟩ : MethodName) = true := plainFor_of_name (show plainName "io/invocant/cli/Expression$Value" = true by first | (simp [plainName, overriddenIn]; done) | decide +kernel)
theorem ef_1n (m : MethodId)  : entryFrame m #[.null] 1 = mkF m 0 #[.val .null] [] := by first | (simp [entryFrame, mkF, argsToLocals, Value.category]; done) | rfl
def Q1n (Z : State)  (h0 : Heap) (n0 : Nat) (v9 : Option Value) (h9 : Heap) (L9 : List Loc) : Prop := ∃ (b9 : Addr), v9 = some (.ref b9) ∧ Fr n0 L9 ∧ Keep h0 h9 [] ∧ h0.size ≤ b9 ∧ Exa Z h9 b9 "io/invocant/cli/Expression$Value" ∧ Fld Z h9 b9 "io/invocant/cli/Expression$Value" "type" "Ljava/lang/Class;" .null ∧ Fld Z h9 b9 "io/invocant/cli/Expression$Value" "value" "Ljava/lang/Object;" .null
set_option maxRecDepth 65536 in
set_option maxHeartbeats 40000000 in
theorem rm1n (l : Launch) (Z : State) (a0 : Array Value) (hw : ∀ d ∈ tables_1, d.before a0 Z = true) (ws : List Jvm.Cond)  (h0 : Heap) (n0 : Nat) (Z0 : n0 ≤ h0.size) :
    MetFree l (⟨"io/invocant/cli/Expression$Value", "of", "(Ljava/lang/Object;)Lio/invocant/cli/Expression$Value;"⟩ : MethodName) (head1 (Jvm.Cond.code (⟨"io/invocant/cli/Expression$Value", "of", "(Ljava/lang/Object;)Lio/invocant/cli/Expression$Value;"⟩ : MethodName) prog_16_method_2_code 1 (some (.object "io/invocant/cli/Expression$Value")) :: ws) ({ frames := 3, cells := 1, slots := 2, locals := 39 } : Room)) (fun A9 U9 => A9 = #[.null] ∧ Z.Warmed39 U9.vm ∧ U9.heap = h0) (fun _ _ _ _ _ => True) (fun _ U9 o9 V9 => ∃ v9 L9, o9 = .returned v9 ∧ (Q1n Z  h0 n0) v9 V9.heap L9 ∧ FrameEnd U9 o9 V9 L9 ({ frames := 3, cells := 1, slots := 2, locals := 39 } : Room).cells ({ frames := 3, cells := 1, slots := 2, locals := 39 } : Room).slots) := by
  refine met_of (Q := (Q1n Z  h0 n0)) pn_1 ?_
  intro p e s m below meth c T0 C X0 e0
  have N0 := Fr.nil n0
  refine Go.cast (ef_1n m) ?_
  refine wnew C X0 (tw_5 hw) (tw_6 hw) (tw_3 hw) e0 f1_0 (by decide) (by decide) ?_
  intro T1 h1 b1 g1 X1 e1 E1 A1 D1
  have sz1 : h0.size ≤ b1 := Nat.le_trans (Nat.le_refl h0.size) (Nat.le_of_eq g1.symm)
  have F1_type : Fld Z h1 b1 "io/invocant/cli/Expression$Value" "type" "Ljava/lang/Class;" .null := D1 (Or.inr (tw_19 hw)) (ty := (.object "java/lang/Class")) (by decide)
  have F1_value : Fld Z h1 b1 "io/invocant/cli/Expression$Value" "value" "Ljava/lang/Object;" .null := D1 (Or.inr (tw_21 hw)) (ty := (.object "java/lang/Object")) (by decide)
  refine wdup C X1 f1_3 rfl ?_
  refine waloadN C X1 f1_4 rfl rfl ?_
  refine wifnonnullN C X1 (b := 0) f1_5 ?_
  refine wnull C X1 f1_8 ?_
  refine wgoto C X1 f1_9 ?_
  refine waloadN C X1 f1_16 rfl rfl ?_
  refine wspecial C X1 (y := (⟨"io/invocant/cli/Expression$Value", "<init>", "(Ljava/lang/Class;Ljava/lang/Object;)V"⟩ : MethodName)) rfl (tw_7 hw) (tw_8 hw) (tw_9 hw) (tw_3 hw) rfl (by decide) (rm2n l Z a0 hw [] b1 h1 n0 (Nat.le_trans Z0 E1.1) A1 F1_type F1_value (Nat.le_trans Z0 sz1)) e1 f1_17 (a := b1) (argsL := [.null, .null]) (rest := [(.ref b1)]) rfl rfl (lenOf pd_11 rfl) rfl (W := 1) (Nat.le_of_eq rfl) (by decide) (by decide) (by decide) (by decide) ?_
  intro v2 T2 L2 X2 q2
  obtain ⟨rfl, Nq2, K2, G2_0, G2_1⟩ := q2
  have N2 := Fr.app N0 Nq2
  show Go p e below s _ _ _ T2 (mkF m 20 #[.val .null] [(.ref b1)])
  refine waret C X2 f1_20 rfl rfl rfl rfl (by decide) (by decide) ?_
  have q3 := (((Keep.refl h0 []).ext E1).trans K2 (allS (Or.inr sz1) all0))
  exact ⟨b1, rfl, N2, q3, sz1, (A1.keep K2), G2_0, G2_1⟩
theorem f1_12 : Dec prog_16_method_2_code 12 (.aload_n 0) 1 13 := ⟨by decide +kernel, rfl⟩
theorem f1_13 : Dec prog_16_method_2_code 13 (.invokevirtual 17) 3 16 := ⟨by decide +kernel, rfl⟩
theorem ef_1I (m : MethodId) (ob : Addr) : entryFrame m #[(.ref ob)] 1 = mkF m 0 #[.val (.ref ob)] [] := by first | (simp [entryFrame, mkF, argsToLocals, Value.category]; done) | rfl
def Q1I (Z : State) (ob : Addr) (mo : Addr) (h0 : Heap) (n0 : Nat) (v9 : Option Value) (h9 : Heap) (L9 : List Loc) : Prop := ∃ (b9 : Addr), v9 = some (.ref b9) ∧ Fr n0 L9 ∧ Keep h0 h9 [] ∧ h0.size ≤ b9 ∧ Exa Z h9 b9 "io/invocant/cli/Expression$Value" ∧ Fld Z h9 b9 "io/invocant/cli/Expression$Value" "type" "Ljava/lang/Class;" (.ref mo) ∧ Fld Z h9 b9 "io/invocant/cli/Expression$Value" "value" "Ljava/lang/Object;" (.ref ob)
set_option maxRecDepth 65536 in
set_option maxHeartbeats 40000000 in
theorem rm1I (l : Launch) (Z : State) (a0 : Array Value) (hw : ∀ d ∈ tables_1, d.before a0 Z = true) (ws : List Jvm.Cond) (ob : Addr) (mo : Addr) (h0 : Heap) (n0 : Nat) (Z0 : n0 ≤ h0.size) (Exa_0 : Exa Z h0 ob "java/lang/Integer") (Mir_1 : own_Mir Z "java/lang/Integer" mo) :
    MetFree l (⟨"io/invocant/cli/Expression$Value", "of", "(Ljava/lang/Object;)Lio/invocant/cli/Expression$Value;"⟩ : MethodName) (head1 (Jvm.Cond.code (⟨"io/invocant/cli/Expression$Value", "of", "(Ljava/lang/Object;)Lio/invocant/cli/Expression$Value;"⟩ : MethodName) prog_16_method_2_code 1 (some (.object "io/invocant/cli/Expression$Value")) :: ws) ({ frames := 3, cells := 1, slots := 2, locals := 39 } : Room)) (fun A9 U9 => A9 = #[(.ref ob)] ∧ Z.Warmed39 U9.vm ∧ U9.heap = h0) (fun _ _ _ _ _ => True) (fun _ U9 o9 V9 => ∃ v9 L9, o9 = .returned v9 ∧ (Q1I Z ob mo h0 n0) v9 V9.heap L9 ∧ FrameEnd U9 o9 V9 L9 ({ frames := 3, cells := 1, slots := 2, locals := 39 } : Room).cells ({ frames := 3, cells := 1, slots := 2, locals := 39 } : Room).slots) := by
  refine met_of (Q := (Q1I Z ob mo h0 n0)) pn_1 ?_
  intro p e s m below meth c T0 C X0 e0
  have N0 := Fr.nil n0
  refine Go.cast (ef_1I m ob) ?_
  refine wnew C X0 (tw_5 hw) (tw_6 hw) (tw_3 hw) e0 f1_0 (by decide) (by decide) ?_
  intro T1 h1 b1 g1 X1 e1 E1 A1 D1
  have sz1 : h0.size ≤ b1 := Nat.le_trans (Nat.le_refl h0.size) (Nat.le_of_eq g1.symm)
  have F1_type : Fld Z h1 b1 "io/invocant/cli/Expression$Value" "type" "Ljava/lang/Class;" .null := D1 (Or.inr (tw_19 hw)) (ty := (.object "java/lang/Class")) (by decide)
  have F1_value : Fld Z h1 b1 "io/invocant/cli/Expression$Value" "value" "Ljava/lang/Object;" .null := D1 (Or.inr (tw_21 hw)) (ty := (.object "java/lang/Object")) (by decide)
  refine wdup C X1 f1_3 rfl ?_
  refine waloadN C X1 f1_4 rfl rfl ?_
  refine wifnonnullY C X1 f1_5 ?_
  refine waloadN C X1 f1_12 rfl rfl ?_
  refine wgetC C X1 (tw_95 hw) (tw_96 hw) (tw_153 hw) (tw_97 hw) (tw_99 hw) Mir_1 e1 (Exa_0.ext E1) f1_13 rfl (W := 2) (Nat.le_of_eq rfl) (by decide) (by decide) ?_
  intro T2 X2 e2
  refine waloadN C X2 f1_16 rfl rfl ?_
  refine wspecial C X2 (y := (⟨"io/invocant/cli/Expression$Value", "<init>", "(Ljava/lang/Class;Ljava/lang/Object;)V"⟩ : MethodName)) rfl (tw_7 hw) (tw_8 hw) (tw_9 hw) (tw_3 hw) rfl (by decide) (rm2o l Z a0 hw [] b1 mo ob h1 n0 (Nat.le_trans Z0 E1.1) A1 F1_type F1_value (Nat.le_trans Z0 sz1)) e2 f1_17 (a := b1) (argsL := [(.ref mo), (.ref ob)]) (rest := [(.ref b1)]) rfl rfl (lenOf pd_11 rfl) rfl (W := 1) (Nat.le_of_eq rfl) (by decide) (by decide) (by decide) (by decide) ?_
  intro v3 T3 L3 X3 q3
  obtain ⟨rfl, Nq3, K3, G3_0, G3_1⟩ := q3
  have N3 := Fr.app N0 Nq3
  show Go p e below s _ _ _ T3 (mkF m 20 #[.val (.ref ob)] [(.ref b1)])
  refine waret C X3 f1_20 rfl rfl rfl rfl (by decide) (by decide) ?_
  have q4 := (((Keep.refl h0 []).ext E1).trans K3 (allS (Or.inr sz1) all0))
  exact ⟨b1, rfl, N3, q4, sz1, (A1.keep K3), G3_0, G3_1⟩
theorem ef_1L (m : MethodId) (ob : Addr) : entryFrame m #[(.ref ob)] 1 = mkF m 0 #[.val (.ref ob)] [] := by first | (simp [entryFrame, mkF, argsToLocals, Value.category]; done) | rfl
def Q1L (Z : State) (ob : Addr) (mo : Addr) (h0 : Heap) (n0 : Nat) (v9 : Option Value) (h9 : Heap) (L9 : List Loc) : Prop := ∃ (b9 : Addr), v9 = some (.ref b9) ∧ Fr n0 L9 ∧ Keep h0 h9 [] ∧ h0.size ≤ b9 ∧ Exa Z h9 b9 "io/invocant/cli/Expression$Value" ∧ Fld Z h9 b9 "io/invocant/cli/Expression$Value" "type" "Ljava/lang/Class;" (.ref mo) ∧ Fld Z h9 b9 "io/invocant/cli/Expression$Value" "value" "Ljava/lang/Object;" (.ref ob)
set_option maxRecDepth 65536 in
set_option maxHeartbeats 40000000 in
theorem rm1L (l : Launch) (Z : State) (a0 : Array Value) (hw : ∀ d ∈ tables_1, d.before a0 Z = true) (ws : List Jvm.Cond) (ob : Addr) (mo : Addr) (h0 : Heap) (n0 : Nat) (Z0 : n0 ≤ h0.size) (Exa_0 : Exa Z h0 ob "java/lang/Long") (Mir_1 : own_Mir Z "java/lang/Long" mo) :
    MetFree l (⟨"io/invocant/cli/Expression$Value", "of", "(Ljava/lang/Object;)Lio/invocant/cli/Expression$Value;"⟩ : MethodName) (head1 (Jvm.Cond.code (⟨"io/invocant/cli/Expression$Value", "of", "(Ljava/lang/Object;)Lio/invocant/cli/Expression$Value;"⟩ : MethodName) prog_16_method_2_code 1 (some (.object "io/invocant/cli/Expression$Value")) :: ws) ({ frames := 3, cells := 1, slots := 2, locals := 39 } : Room)) (fun A9 U9 => A9 = #[(.ref ob)] ∧ Z.Warmed39 U9.vm ∧ U9.heap = h0) (fun _ _ _ _ _ => True) (fun _ U9 o9 V9 => ∃ v9 L9, o9 = .returned v9 ∧ (Q1L Z ob mo h0 n0) v9 V9.heap L9 ∧ FrameEnd U9 o9 V9 L9 ({ frames := 3, cells := 1, slots := 2, locals := 39 } : Room).cells ({ frames := 3, cells := 1, slots := 2, locals := 39 } : Room).slots) := by
  refine met_of (Q := (Q1L Z ob mo h0 n0)) pn_1 ?_
  intro p e s m below meth c T0 C X0 e0
  have N0 := Fr.nil n0
  refine Go.cast (ef_1L m ob) ?_
  refine wnew C X0 (tw_5 hw) (tw_6 hw) (tw_3 hw) e0 f1_0 (by decide) (by decide) ?_
  intro T1 h1 b1 g1 X1 e1 E1 A1 D1
  have sz1 : h0.size ≤ b1 := Nat.le_trans (Nat.le_refl h0.size) (Nat.le_of_eq g1.symm)
  have F1_type : Fld Z h1 b1 "io/invocant/cli/Expression$Value" "type" "Ljava/lang/Class;" .null := D1 (Or.inr (tw_19 hw)) (ty := (.object "java/lang/Class")) (by decide)
  have F1_value : Fld Z h1 b1 "io/invocant/cli/Expression$Value" "value" "Ljava/lang/Object;" .null := D1 (Or.inr (tw_21 hw)) (ty := (.object "java/lang/Object")) (by decide)
  refine wdup C X1 f1_3 rfl ?_
  refine waloadN C X1 f1_4 rfl rfl ?_
  refine wifnonnullY C X1 f1_5 ?_
  refine waloadN C X1 f1_12 rfl rfl ?_
  refine wgetC C X1 (tw_95 hw) (tw_96 hw) (tw_150 hw) (tw_97 hw) (tw_99 hw) Mir_1 e1 (Exa_0.ext E1) f1_13 rfl (W := 2) (Nat.le_of_eq rfl) (by decide) (by decide) ?_
  intro T2 X2 e2
  refine waloadN C X2 f1_16 rfl rfl ?_
  refine wspecial C X2 (y := (⟨"io/invocant/cli/Expression$Value", "<init>", "(Ljava/lang/Class;Ljava/lang/Object;)V"⟩ : MethodName)) rfl (tw_7 hw) (tw_8 hw) (tw_9 hw) (tw_3 hw) rfl (by decide) (rm2o l Z a0 hw [] b1 mo ob h1 n0 (Nat.le_trans Z0 E1.1) A1 F1_type F1_value (Nat.le_trans Z0 sz1)) e2 f1_17 (a := b1) (argsL := [(.ref mo), (.ref ob)]) (rest := [(.ref b1)]) rfl rfl (lenOf pd_11 rfl) rfl (W := 1) (Nat.le_of_eq rfl) (by decide) (by decide) (by decide) (by decide) ?_
  intro v3 T3 L3 X3 q3
  obtain ⟨rfl, Nq3, K3, G3_0, G3_1⟩ := q3
  have N3 := Fr.app N0 Nq3
  show Go p e below s _ _ _ T3 (mkF m 20 #[.val (.ref ob)] [(.ref b1)])
  refine waret C X3 f1_20 rfl rfl rfl rfl (by decide) (by decide) ?_
  have q4 := (((Keep.refl h0 []).ext E1).trans K3 (allS (Or.inr sz1) all0))
  exact ⟨b1, rfl, N3, q4, sz1, (A1.keep K3), G3_0, G3_1⟩
theorem ef_1S (m : MethodId) (ob : Addr) : entryFrame m #[(.ref ob)] 1 = mkF m 0 #[.val (.ref ob)] [] := by first | (simp [entryFrame, mkF, argsToLocals, Value.category]; done) | rfl
def Q1S (Z : State) (ob : Addr) (mo : Addr) (h0 : Heap) (n0 : Nat) (v9 : Option Value) (h9 : Heap) (L9 : List Loc) : Prop := ∃ (b9 : Addr), v9 = some (.ref b9) ∧ Fr n0 L9 ∧ Keep h0 h9 [] ∧ h0.size ≤ b9 ∧ Exa Z h9 b9 "io/invocant/cli/Expression$Value" ∧ Fld Z h9 b9 "io/invocant/cli/Expression$Value" "type" "Ljava/lang/Class;" (.ref mo) ∧ Fld Z h9 b9 "io/invocant/cli/Expression$Value" "value" "Ljava/lang/Object;" (.ref ob)
set_option maxRecDepth 65536 in
set_option maxHeartbeats 40000000 in
theorem rm1S (l : Launch) (Z : State) (a0 : Array Value) (hw : ∀ d ∈ tables_1, d.before a0 Z = true) (ws : List Jvm.Cond) (ob : Addr) (mo : Addr) (h0 : Heap) (n0 : Nat) (Z0 : n0 ≤ h0.size) (Exa_0 : Exa Z h0 ob "java/lang/String") (Mir_1 : own_Mir Z "java/lang/String" mo) :
    MetFree l (⟨"io/invocant/cli/Expression$Value", "of", "(Ljava/lang/Object;)Lio/invocant/cli/Expression$Value;"⟩ : MethodName) (head1 (Jvm.Cond.code (⟨"io/invocant/cli/Expression$Value", "of", "(Ljava/lang/Object;)Lio/invocant/cli/Expression$Value;"⟩ : MethodName) prog_16_method_2_code 1 (some (.object "io/invocant/cli/Expression$Value")) :: ws) ({ frames := 3, cells := 1, slots := 2, locals := 39 } : Room)) (fun A9 U9 => A9 = #[(.ref ob)] ∧ Z.Warmed39 U9.vm ∧ U9.heap = h0) (fun _ _ _ _ _ => True) (fun _ U9 o9 V9 => ∃ v9 L9, o9 = .returned v9 ∧ (Q1S Z ob mo h0 n0) v9 V9.heap L9 ∧ FrameEnd U9 o9 V9 L9 ({ frames := 3, cells := 1, slots := 2, locals := 39 } : Room).cells ({ frames := 3, cells := 1, slots := 2, locals := 39 } : Room).slots) := by
  refine met_of (Q := (Q1S Z ob mo h0 n0)) pn_1 ?_
  intro p e s m below meth c T0 C X0 e0
  have N0 := Fr.nil n0
  refine Go.cast (ef_1S m ob) ?_
  refine wnew C X0 (tw_5 hw) (tw_6 hw) (tw_3 hw) e0 f1_0 (by decide) (by decide) ?_
  intro T1 h1 b1 g1 X1 e1 E1 A1 D1
  have sz1 : h0.size ≤ b1 := Nat.le_trans (Nat.le_refl h0.size) (Nat.le_of_eq g1.symm)
  have F1_type : Fld Z h1 b1 "io/invocant/cli/Expression$Value" "type" "Ljava/lang/Class;" .null := D1 (Or.inr (tw_19 hw)) (ty := (.object "java/lang/Class")) (by decide)
  have F1_value : Fld Z h1 b1 "io/invocant/cli/Expression$Value" "value" "Ljava/lang/Object;" .null := D1 (Or.inr (tw_21 hw)) (ty := (.object "java/lang/Object")) (by decide)
  refine wdup C X1 f1_3 rfl ?_
  refine waloadN C X1 f1_4 rfl rfl ?_
  refine wifnonnullY C X1 f1_5 ?_
  refine waloadN C X1 f1_12 rfl rfl ?_
  refine wgetC C X1 (tw_95 hw) (tw_96 hw) (tw_128 hw) (tw_97 hw) (tw_99 hw) Mir_1 e1 (Exa_0.ext E1) f1_13 rfl (W := 2) (Nat.le_of_eq rfl) (by decide) (by decide) ?_
  intro T2 X2 e2
  refine waloadN C X2 f1_16 rfl rfl ?_
  refine wspecial C X2 (y := (⟨"io/invocant/cli/Expression$Value", "<init>", "(Ljava/lang/Class;Ljava/lang/Object;)V"⟩ : MethodName)) rfl (tw_7 hw) (tw_8 hw) (tw_9 hw) (tw_3 hw) rfl (by decide) (rm2o l Z a0 hw [] b1 mo ob h1 n0 (Nat.le_trans Z0 E1.1) A1 F1_type F1_value (Nat.le_trans Z0 sz1)) e2 f1_17 (a := b1) (argsL := [(.ref mo), (.ref ob)]) (rest := [(.ref b1)]) rfl rfl (lenOf pd_11 rfl) rfl (W := 1) (Nat.le_of_eq rfl) (by decide) (by decide) (by decide) (by decide) ?_
  intro v3 T3 L3 X3 q3
  obtain ⟨rfl, Nq3, K3, G3_0, G3_1⟩ := q3
  have N3 := Fr.app N0 Nq3
  show Go p e below s _ _ _ T3 (mkF m 20 #[.val (.ref ob)] [(.ref b1)])
  refine waret C X3 f1_20 rfl rfl rfl rfl (by decide) (by decide) ?_
  have q4 := (((Keep.refl h0 []).ext E1).trans K3 (allS (Or.inr sz1) all0))
  exact ⟨b1, rfl, N3, q4, sz1, (A1.keep K3), G3_0, G3_1⟩
theorem ef_1A (m : MethodId) (ob : Addr) : entryFrame m #[(.ref ob)] 1 = mkF m 0 #[.val (.ref ob)] [] := by first | (simp [entryFrame, mkF, argsToLocals, Value.category]; done) | rfl
def Q1A (Z : State) (ob : Addr) (mo : Addr) (h0 : Heap) (n0 : Nat) (v9 : Option Value) (h9 : Heap) (L9 : List Loc) : Prop := ∃ (b9 : Addr), v9 = some (.ref b9) ∧ Fr n0 L9 ∧ Keep h0 h9 [] ∧ h0.size ≤ b9 ∧ Exa Z h9 b9 "io/invocant/cli/Expression$Value" ∧ Fld Z h9 b9 "io/invocant/cli/Expression$Value" "type" "Ljava/lang/Class;" (.ref mo) ∧ Fld Z h9 b9 "io/invocant/cli/Expression$Value" "value" "Ljava/lang/Object;" (.ref ob)
set_option maxRecDepth 65536 in
set_option maxHeartbeats 40000000 in
theorem rm1A (l : Launch) (Z : State) (a0 : Array Value) (hw : ∀ d ∈ tables_1, d.before a0 Z = true) (ws : List Jvm.Cond) (ob : Addr) (mo : Addr) (h0 : Heap) (n0 : Nat) (Z0 : n0 ≤ h0.size) (Exa_0 : Exa Z h0 ob "java/util/ArrayList") (Mir_1 : own_Mir Z "java/util/ArrayList" mo) :
    MetFree l (⟨"io/invocant/cli/Expression$Value", "of", "(Ljava/lang/Object;)Lio/invocant/cli/Expression$Value;"⟩ : MethodName) (head1 (Jvm.Cond.code (⟨"io/invocant/cli/Expression$Value", "of", "(Ljava/lang/Object;)Lio/invocant/cli/Expression$Value;"⟩ : MethodName) prog_16_method_2_code 1 (some (.object "io/invocant/cli/Expression$Value")) :: ws) ({ frames := 3, cells := 1, slots := 2, locals := 39 } : Room)) (fun A9 U9 => A9 = #[(.ref ob)] ∧ Z.Warmed39 U9.vm ∧ U9.heap = h0) (fun _ _ _ _ _ => True) (fun _ U9 o9 V9 => ∃ v9 L9, o9 = .returned v9 ∧ (Q1A Z ob mo h0 n0) v9 V9.heap L9 ∧ FrameEnd U9 o9 V9 L9 ({ frames := 3, cells := 1, slots := 2, locals := 39 } : Room).cells ({ frames := 3, cells := 1, slots := 2, locals := 39 } : Room).slots) := by
  refine met_of (Q := (Q1A Z ob mo h0 n0)) pn_1 ?_
  intro p e s m below meth c T0 C X0 e0
  have N0 := Fr.nil n0
  refine Go.cast (ef_1A m ob) ?_
  refine wnew C X0 (tw_5 hw) (tw_6 hw) (tw_3 hw) e0 f1_0 (by decide) (by decide) ?_
  intro T1 h1 b1 g1 X1 e1 E1 A1 D1
  have sz1 : h0.size ≤ b1 := Nat.le_trans (Nat.le_refl h0.size) (Nat.le_of_eq g1.symm)
  have F1_type : Fld Z h1 b1 "io/invocant/cli/Expression$Value" "type" "Ljava/lang/Class;" .null := D1 (Or.inr (tw_19 hw)) (ty := (.object "java/lang/Class")) (by decide)
  have F1_value : Fld Z h1 b1 "io/invocant/cli/Expression$Value" "value" "Ljava/lang/Object;" .null := D1 (Or.inr (tw_21 hw)) (ty := (.object "java/lang/Object")) (by decide)
  refine wdup C X1 f1_3 rfl ?_
  refine waloadN C X1 f1_4 rfl rfl ?_
  refine wifnonnullY C X1 f1_5 ?_
  refine waloadN C X1 f1_12 rfl rfl ?_
  refine wgetC C X1 (tw_95 hw) (tw_96 hw) (tw_98 hw) (tw_97 hw) (tw_99 hw) Mir_1 e1 (Exa_0.ext E1) f1_13 rfl (W := 2) (Nat.le_of_eq rfl) (by decide) (by decide) ?_
  intro T2 X2 e2
  refine waloadN C X2 f1_16 rfl rfl ?_
  refine wspecial C X2 (y := (⟨"io/invocant/cli/Expression$Value", "<init>", "(Ljava/lang/Class;Ljava/lang/Object;)V"⟩ : MethodName)) rfl (tw_7 hw) (tw_8 hw) (tw_9 hw) (tw_3 hw) rfl (by decide) (rm2o l Z a0 hw [] b1 mo ob h1 n0 (Nat.le_trans Z0 E1.1) A1 F1_type F1_value (Nat.le_trans Z0 sz1)) e2 f1_17 (a := b1) (argsL := [(.ref mo), (.ref ob)]) (rest := [(.ref b1)]) rfl rfl (lenOf pd_11 rfl) rfl (W := 1) (Nat.le_of_eq rfl) (by decide) (by decide) (by decide) (by decide) ?_
  intro v3 T3 L3 X3 q3
  obtain ⟨rfl, Nq3, K3, G3_0, G3_1⟩ := q3
  have N3 := Fr.app N0 Nq3
  show Go p e below s _ _ _ T3 (mkF m 20 #[.val (.ref ob)] [(.ref b1)])
  refine waret C X3 f1_20 rfl rfl rfl rfl (by decide) (by decide) ?_
  have q4 := (((Keep.refl h0 []).ext E1).trans K3 (allS (Or.inr sz1) all0))
  exact ⟨b1, rfl, N3, q4, sz1, (A1.keep K3), G3_0, G3_1⟩
theorem ef_1B (m : MethodId) (ob : Addr) : entryFrame m #[(.ref ob)] 1 = mkF m 0 #[.val (.ref ob)] [] := by first | (simp [entryFrame, mkF, argsToLocals, Value.category]; done) | rfl
def Q1B (Z : State) (ob : Addr) (mo : Addr) (h0 : Heap) (n0 : Nat) (v9 : Option Value) (h9 : Heap) (L9 : List Loc) : Prop := ∃ (b9 : Addr), v9 = some (.ref b9) ∧ Fr n0 L9 ∧ Keep h0 h9 [] ∧ h0.size ≤ b9 ∧ Exa Z h9 b9 "io/invocant/cli/Expression$Value" ∧ Fld Z h9 b9 "io/invocant/cli/Expression$Value" "type" "Ljava/lang/Class;" (.ref mo) ∧ Fld Z h9 b9 "io/invocant/cli/Expression$Value" "value" "Ljava/lang/Object;" (.ref ob)
set_option maxRecDepth 65536 in
set_option maxHeartbeats 40000000 in
theorem rm1B (l : Launch) (Z : State) (a0 : Array Value) (hw : ∀ d ∈ tables_1, d.before a0 Z = true) (ws : List Jvm.Cond) (ob : Addr) (mo : Addr) (h0 : Heap) (n0 : Nat) (Z0 : n0 ≤ h0.size) (Exa_0 : Exa Z h0 ob "[I") (Mir_1 : own_Mir Z "[I" mo) :
    MetFree l (⟨"io/invocant/cli/Expression$Value", "of", "(Ljava/lang/Object;)Lio/invocant/cli/Expression$Value;"⟩ : MethodName) (head1 (Jvm.Cond.code (⟨"io/invocant/cli/Expression$Value", "of", "(Ljava/lang/Object;)Lio/invocant/cli/Expression$Value;"⟩ : MethodName) prog_16_method_2_code 1 (some (.object "io/invocant/cli/Expression$Value")) :: ws) ({ frames := 3, cells := 1, slots := 2, locals := 39 } : Room)) (fun A9 U9 => A9 = #[(.ref ob)] ∧ Z.Warmed39 U9.vm ∧ U9.heap = h0) (fun _ _ _ _ _ => True) (fun _ U9 o9 V9 => ∃ v9 L9, o9 = .returned v9 ∧ (Q1B Z ob mo h0 n0) v9 V9.heap L9 ∧ FrameEnd U9 o9 V9 L9 ({ frames := 3, cells := 1, slots := 2, locals := 39 } : Room).cells ({ frames := 3, cells := 1, slots := 2, locals := 39 } : Room).slots) := by
  refine met_of (Q := (Q1B Z ob mo h0 n0)) pn_1 ?_
  intro p e s m below meth c T0 C X0 e0
  have N0 := Fr.nil n0
  refine Go.cast (ef_1B m ob) ?_
  refine wnew C X0 (tw_5 hw) (tw_6 hw) (tw_3 hw) e0 f1_0 (by decide) (by decide) ?_
  intro T1 h1 b1 g1 X1 e1 E1 A1 D1
  have sz1 : h0.size ≤ b1 := Nat.le_trans (Nat.le_refl h0.size) (Nat.le_of_eq g1.symm)
  have F1_type : Fld Z h1 b1 "io/invocant/cli/Expression$Value" "type" "Ljava/lang/Class;" .null := D1 (Or.inr (tw_19 hw)) (ty := (.object "java/lang/Class")) (by decide)
  have F1_value : Fld Z h1 b1 "io/invocant/cli/Expression$Value" "value" "Ljava/lang/Object;" .null := D1 (Or.inr (tw_21 hw)) (ty := (.object "java/lang/Object")) (by decide)
  refine wdup C X1 f1_3 rfl ?_
  refine waloadN C X1 f1_4 rfl rfl ?_
  refine wifnonnullY C X1 f1_5 ?_
  refine waloadN C X1 f1_12 rfl rfl ?_
  refine wgetC C X1 (tw_95 hw) (tw_96 hw) (tw_157 hw) (tw_97 hw) (tw_99 hw) Mir_1 e1 (Exa_0.ext E1) f1_13 rfl (W := 2) (Nat.le_of_eq rfl) (by decide) (by decide) ?_
  intro T2 X2 e2
  refine waloadN C X2 f1_16 rfl rfl ?_
  refine wspecial C X2 (y := (⟨"io/invocant/cli/Expression$Value", "<init>", "(Ljava/lang/Class;Ljava/lang/Object;)V"⟩ : MethodName)) rfl (tw_7 hw) (tw_8 hw) (tw_9 hw) (tw_3 hw) rfl (by decide) (rm2o l Z a0 hw [] b1 mo ob h1 n0 (Nat.le_trans Z0 E1.1) A1 F1_type F1_value (Nat.le_trans Z0 sz1)) e2 f1_17 (a := b1) (argsL := [(.ref mo), (.ref ob)]) (rest := [(.ref b1)]) rfl rfl (lenOf pd_11 rfl) rfl (W := 1) (Nat.le_of_eq rfl) (by decide) (by decide) (by decide) (by decide) ?_
  intro v3 T3 L3 X3 q3
  obtain ⟨rfl, Nq3, K3, G3_0, G3_1⟩ := q3
  have N3 := Fr.app N0 Nq3
  show Go p e below s _ _ _ T3 (mkF m 20 #[.val (.ref ob)] [(.ref b1)])
  refine waret C X3 f1_20 rfl rfl rfl rfl (by decide) (by decide) ?_
  have q4 := (((Keep.refl h0 []).ext E1).trans K3 (allS (Or.inr sz1) all0))
  exact ⟨b1, rfl, N3, q4, sz1, (A1.keep K3), G3_0, G3_1⟩
theorem f5_0 : Dec prog_16_method_8_code 0 (.aload_n 0) 1 1 := ⟨by decide +kernel, rfl⟩
theorem f5_1 : Dec prog_16_method_8_code 1 (.getfield 13) 3 4 := ⟨by decide +kernel, rfl⟩
theorem f5_4 : Dec prog_16_method_8_code 4 (.areturn) 1 5 := ⟨by decide +kernel, rfl⟩
theorem pn_5 : plainFor (⟨"io/invocant/cli/Expression$Value", "value", "()Ljava/lang/Object;"⟩ : MethodName) = true := plainFor_of_name (show plainName "io/invocant/cli/Expression$Value" = true by first | (simp [plainName, overriddenIn]; done) | decide +kernel)
theorem ef_5n (m : MethodId) (vo : Addr) : entryFrame m #[(.ref vo)] 1 = mkF m 0 #[.val (.ref vo)] [] := by first | (simp [entryFrame, mkF, argsToLocals, Value.category]; done) | rfl
def Q5n (Z : State) (vo : Addr) (h0 : Heap) (n0 : Nat) (v9 : Option Value) (h9 : Heap) (L9 : List Loc) : Prop := v9 = some .null ∧ Fr n0 L9 ∧ h9 = h0
set_option maxRecDepth 65536 in
set_option maxHeartbeats 40000000 in
theorem rm5n (l : Launch) (Z : State) (a0 : Array Value) (hw : ∀ d ∈ tables_1, d.before a0 Z = true) (ws : List Jvm.Cond) (vo : Addr) (h0 : Heap) (n0 : Nat) (Z0 : n0 ≤ h0.size) (Fld_0 : Fld Z h0 vo "io/invocant/cli/Expression$Value" "value" "Ljava/lang/Object;" .null) :
    MetFree l (⟨"io/invocant/cli/Expression$Value", "value", "()Ljava/lang/Object;"⟩ : MethodName) (head1 (Jvm.Cond.code (⟨"io/invocant/cli/Expression$Value", "value", "()Ljava/lang/Object;"⟩ : MethodName) prog_16_method_8_code 1 (some (.object "java/lang/Object")) :: ws) ({ frames := 0, cells := 0, slots := 0, locals := 0 } : Room)) (fun A9 U9 => A9 = #[(.ref vo)] ∧ Z.Warmed39 U9.vm ∧ U9.heap = h0) (fun _ _ _ _ _ => True) (fun _ U9 o9 V9 => ∃ v9 L9, o9 = .returned v9 ∧ (Q5n Z vo h0 n0) v9 V9.heap L9 ∧ FrameEnd U9 o9 V9 L9 ({ frames := 0, cells := 0, slots := 0, locals := 0 } : Room).cells ({ frames := 0, cells := 0, slots := 0, locals := 0 } : Room).slots) := by
  refine met_of (Q := (Q5n Z vo h0 n0)) pn_5 ?_
  intro p e s m below meth c T0 C X0 e0
  have N0 := Fr.nil n0
  refine Go.cast (ef_5n m vo) ?_
  refine waloadN C X0 f5_0 rfl rfl ?_
  refine wget C X0 (host := "") (Or.inl (tw_20 hw)) Via.refl e0 Fld_0 f5_1 ?_
  intro T1 X1 e1
  refine waret C X1 f5_4 rfl rfl rfl rfl (by decide) (by decide) ?_
  rw [e1]
  exact ⟨rfl, N0, rfl⟩
theorem ef_5o (m : MethodId) (vo : Addr) : entryFrame m #[(.ref vo)] 1 = mkF m 0 #[.val (.ref vo)] [] := by first | (simp [entryFrame, mkF, argsToLocals, Value.category]; done) | rfl
def Q5o (Z : State) (vo : Addr) (ob : Addr) (h0 : Heap) (n0 : Nat) (v9 : Option Value) (h9 : Heap) (L9 : List Loc) : Prop := v9 = some (.ref ob) ∧ Fr n0 L9 ∧ h9 = h0
set_option maxRecDepth 65536 in
set_option maxHeartbeats 40000000 in
theorem rm5o (l : Launch) (Z : State) (a0 : Array Value) (hw : ∀ d ∈ tables_1, d.before a0 Z = true) (ws : List Jvm.Cond) (vo : Addr) (ob : Addr) (h0 : Heap) (n0 : Nat) (Z0 : n0 ≤ h0.size) (Fld_0 : Fld Z h0 vo "io/invocant/cli/Expression$Value" "value" "Ljava/lang/Object;" (.ref ob)) :
    MetFree l (⟨"io/invocant/cli/Expression$Value", "value", "()Ljava/lang/Object;"⟩ : MethodName) (head1 (Jvm.Cond.code (⟨"io/invocant/cli/Expression$Value", "value", "()Ljava/lang/Object;"⟩ : MethodName) prog_16_method_8_code 1 (some (.object "java/lang/Object")) :: ws) ({ frames := 0, cells := 0, slots := 0, locals := 0 } : Room)) (fun A9 U9 => A9 = #[(.ref vo)] ∧ Z.Warmed39 U9.vm ∧ U9.heap = h0) (fun _ _ _ _ _ => True) (fun _ U9 o9 V9 => ∃ v9 L9, o9 = .returned v9 ∧ (Q5o Z vo ob h0 n0) v9 V9.heap L9 ∧ FrameEnd U9 o9 V9 L9 ({ frames := 0, cells := 0, slots := 0, locals := 0 } : Room).cells ({ frames := 0, cells := 0, slots := 0, locals := 0 } : Room).slots) := by
  refine met_of (Q := (Q5o Z vo ob h0 n0)) pn_5 ?_
  intro p e s m below meth c T0 C X0 e0
  have N0 := Fr.nil n0
  refine Go.cast (ef_5o m vo) ?_
  refine waloadN C X0 f5_0 rfl rfl ?_
  refine wget C X0 (host := "") (Or.inl (tw_20 hw)) Via.refl e0 Fld_0 f5_1 ?_
  intro T1 X1 e1
  refine waret C X1 f5_4 rfl rfl rfl rfl (by decide) (by decide) ?_
  rw [e1]
  exact ⟨rfl, N0, rfl⟩
theorem f6_0 : Dec prog_16_method_7_code 0 (.aload_n 0) 1 1 := ⟨by decide +kernel, rfl⟩
theorem f6_1 : Dec prog_16_method_7_code 1 (.getfield 7) 3 4 := ⟨by decide +kernel, rfl⟩
theorem f6_4 : Dec prog_16_method_7_code 4 (.areturn) 1 5 := ⟨by decide +kernel, rfl⟩
theorem pn_6 : plainFor (⟨"io/invocant/cli/Expression$Value", "type", "()Ljava/lang/Class;"⟩ : MethodName) = true := plainFor_of_name (show plainName "io/invocant/cli/Expression$Value" = true by first | (simp [plainName, overriddenIn]; done) | decide +kernel)
theorem ef_6n (m : MethodId) (vo : Addr) : entryFrame m #[(.ref vo)] 1 = mkF m 0 #[.val (.ref vo)] [] := by first | (simp [entryFrame, mkF, argsToLocals, Value.category]; done) | rfl
def Q6n (Z : State) (vo : Addr) (h0 : Heap) (n0 : Nat) (v9 : Option Value) (h9 : Heap) (L9 : List Loc) : Prop := v9 = some .null ∧ Fr n0 L9 ∧ h9 = h0
set_option maxRecDepth 65536 in
set_option maxHeartbeats 40000000 in
theorem rm6n (l : Launch) (Z : State) (a0 : Array Value) (hw : ∀ d ∈ tables_1, d.before a0 Z = true) (ws : List Jvm.Cond) (vo : Addr) (h0 : Heap) (n0 : Nat) (Z0 : n0 ≤ h0.size) (Fld_0 : Fld Z h0 vo "io/invocant/cli/Expression$Value" "type" "Ljava/lang/Class;" .null) :
    MetFree l (⟨"io/invocant/cli/Expression$Value", "type", "()Ljava/lang/Class;"⟩ : MethodName) (head1 (Jvm.Cond.code (⟨"io/invocant/cli/Expression$Value", "type", "()Ljava/lang/Class;"⟩ : MethodName) prog_16_method_7_code 1 (some (.object "java/lang/Class")) :: ws) ({ frames := 0, cells := 0, slots := 0, locals := 0 } : Room)) (fun A9 U9 => A9 = #[(.ref vo)] ∧ Z.Warmed39 U9.vm ∧ U9.heap = h0) (fun _ _ _ _ _ => True) (fun _ U9 o9 V9 => ∃ v9 L9, o9 = .returned v9 ∧ (Q6n Z vo h0 n0) v9 V9.heap L9 ∧ FrameEnd U9 o9 V9 L9 ({ frames := 0, cells := 0, slots := 0, locals := 0 } : Room).cells ({ frames := 0, cells := 0, slots := 0, locals := 0 } : Room).slots) := by
  refine met_of (Q := (Q6n Z vo h0 n0)) pn_6 ?_
  intro p e s m below meth c T0 C X0 e0
  have N0 := Fr.nil n0
  refine Go.cast (ef_6n m vo) ?_
  refine waloadN C X0 f6_0 rfl rfl ?_
  refine wget C X0 (host := "") (Or.inl (tw_18 hw)) Via.refl e0 Fld_0 f6_1 ?_
  intro T1 X1 e1
  refine waret C X1 f6_4 rfl rfl rfl rfl (by decide) (by decide) ?_
  rw [e1]
  exact ⟨rfl, N0, rfl⟩
theorem ef_6o (m : MethodId) (vo : Addr) : entryFrame m #[(.ref vo)] 1 = mkF m 0 #[.val (.ref vo)] [] := by first | (simp [entryFrame, mkF, argsToLocals, Value.category]; done) | rfl
def Q6o (Z : State) (vo : Addr) (ob : Addr) (h0 : Heap) (n0 : Nat) (v9 : Option Value) (h9 : Heap) (L9 : List Loc) : Prop := v9 = some (.ref ob) ∧ Fr n0 L9 ∧ h9 = h0
set_option maxRecDepth 65536 in
set_option maxHeartbeats 40000000 in
theorem rm6o (l : Launch) (Z : State) (a0 : Array Value) (hw : ∀ d ∈ tables_1, d.before a0 Z = true) (ws : List Jvm.Cond) (vo : Addr) (ob : Addr) (h0 : Heap) (n0 : Nat) (Z0 : n0 ≤ h0.size) (Fld_0 : Fld Z h0 vo "io/invocant/cli/Expression$Value" "type" "Ljava/lang/Class;" (.ref ob)) :
    MetFree l (⟨"io/invocant/cli/Expression$Value", "type", "()Ljava/lang/Class;"⟩ : MethodName) (head1 (Jvm.Cond.code (⟨"io/invocant/cli/Expression$Value", "type", "()Ljava/lang/Class;"⟩ : MethodName) prog_16_method_7_code 1 (some (.object "java/lang/Class")) :: ws) ({ frames := 0, cells := 0, slots := 0, locals := 0 } : Room)) (fun A9 U9 => A9 = #[(.ref vo)] ∧ Z.Warmed39 U9.vm ∧ U9.heap = h0) (fun _ _ _ _ _ => True) (fun _ U9 o9 V9 => ∃ v9 L9, o9 = .returned v9 ∧ (Q6o Z vo ob h0 n0) v9 V9.heap L9 ∧ FrameEnd U9 o9 V9 L9 ({ frames := 0, cells := 0, slots := 0, locals := 0 } : Room).cells ({ frames := 0, cells := 0, slots := 0, locals := 0 } : Room).slots) := by
  refine met_of (Q := (Q6o Z vo ob h0 n0)) pn_6 ?_
  intro p e s m below meth c T0 C X0 e0
  have N0 := Fr.nil n0
  refine Go.cast (ef_6o m vo) ?_
  refine waloadN C X0 f6_0 rfl rfl ?_
  refine wget C X0 (host := "") (Or.inl (tw_18 hw)) Via.refl e0 Fld_0 f6_1 ?_
  intro T1 X1 e1
  refine waret C X1 f6_4 rfl rfl rfl rfl (by decide) (by decide) ?_
  rw [e1]
  exact ⟨rfl, N0, rfl⟩
theorem f0_0 : Dec code 0 (.iload_n 0) 1 1 := ⟨by decide +kernel, rfl⟩
theorem f0_1 : Dec code 1 (.ldc 7) 2 3 := ⟨by decide +kernel, rfl⟩
theorem f0_3 : Dec code 3 (.iand) 1 4 := ⟨by decide +kernel, rfl⟩
theorem f0_4 : Dec code 4 (.bipush 6) 2 6 := ⟨by decide +kernel, rfl⟩
theorem f0_6 : Dec code 6 (.irem) 1 7 := ⟨by decide +kernel, rfl⟩
theorem f0_7 : Dec code 7 (.istore 6) 2 9 := ⟨by decide +kernel, rfl⟩
theorem f0_9 : Dec code 9 (.iload 6) 2 11 := ⟨by decide +kernel, rfl⟩
theorem f0_11 : DecJ code 11 (.ifCond .ne 12) 12 23 14 := ⟨by decide +kernel, by decide, by decide, rfl⟩
theorem f0_14 : Dec code 14 (.aconst_null) 1 15 := ⟨by decide +kernel, rfl⟩
theorem f0_15 : Dec code 15 (.astore 7) 2 17 := ⟨by decide +kernel, rfl⟩
theorem f0_17 : Dec code 17 (.aconst_null) 1 18 := ⟨by decide +kernel, rfl⟩
theorem f0_18 : Dec code 18 (.astore 8) 2 20 := ⟨by decide +kernel, rfl⟩
theorem f0_20 : DecJ code 20 (.goto 146) 146 166 23 := ⟨by decide +kernel, by decide, by decide, rfl⟩
theorem f0_23 : Dec code 23 (.iload 6) 2 25 := ⟨by decide +kernel, rfl⟩
theorem f0_25 : Dec code 25 (.iconst 1) 1 26 := ⟨by decide +kernel, rfl⟩
theorem f0_26 : DecJ code 26 (.if_icmp .ne 16) 16 42 29 := ⟨by decide +kernel, by decide, by decide, rfl⟩
theorem f0_29 : Dec code 29 (.iload_n 1) 1 30 := ⟨by decide +kernel, rfl⟩
theorem f0_30 : Dec code 30 (.invokestatic 8) 3 33 := ⟨by decide +kernel, rfl⟩
theorem f0_33 : Dec code 33 (.astore 7) 2 35 := ⟨by decide +kernel, rfl⟩
theorem f0_35 : Dec code 35 (.ldc 9) 2 37 := ⟨by decide +kernel, rfl⟩
theorem f0_37 : Dec code 37 (.astore 8) 2 39 := ⟨by decide +kernel, rfl⟩
theorem f0_39 : DecJ code 39 (.goto 127) 127 166 42 := ⟨by decide +kernel, by decide, by decide, rfl⟩
theorem f0_42 : Dec code 42 (.iload 6) 2 44 := ⟨by decide +kernel, rfl⟩
theorem f0_44 : Dec code 44 (.iconst 2) 1 45 := ⟨by decide +kernel, rfl⟩
theorem f0_45 : DecJ code 45 (.if_icmp .ne 16) 16 61 48 := ⟨by decide +kernel, by decide, by decide, rfl⟩
theorem f0_48 : Dec code 48 (.lload_n 2) 1 49 := ⟨by decide +kernel, rfl⟩
theorem f0_49 : Dec code 49 (.invokestatic 14) 3 52 := ⟨by decide +kernel, rfl⟩
theorem f0_52 : Dec code 52 (.astore 7) 2 54 := ⟨by decide +kernel, rfl⟩
theorem f0_54 : Dec code 54 (.ldc 15) 2 56 := ⟨by decide +kernel, rfl⟩
theorem f0_56 : Dec code 56 (.astore 8) 2 58 := ⟨by decide +kernel, rfl⟩
theorem f0_58 : DecJ code 58 (.goto 108) 108 166 61 := ⟨by decide +kernel, by decide, by decide, rfl⟩
theorem f0_61 : Dec code 61 (.iload 6) 2 63 := ⟨by decide +kernel, rfl⟩
theorem f0_63 : Dec code 63 (.iconst 3) 1 64 := ⟨by decide +kernel, rfl⟩
theorem f0_64 : DecJ code 64 (.if_icmp .ne 48) 48 112 67 := ⟨by decide +kernel, by decide, by decide, rfl⟩
theorem f0_67 : Dec code 67 (.iconst 2) 1 68 := ⟨by decide +kernel, rfl⟩
theorem f0_68 : Dec code 68 (.newarray .char) 2 70 := ⟨by decide +kernel, rfl⟩
theorem f0_70 : Dec code 70 (.astore 9) 2 72 := ⟨by decide +kernel, rfl⟩
theorem f0_72 : Dec code 72 (.aload 9) 2 74 := ⟨by decide +kernel, rfl⟩
theorem f0_74 : Dec code 74 (.iconst 0) 1 75 := ⟨by decide +kernel, rfl⟩
theorem f0_75 : Dec code 75 (.iload 4) 2 77 := ⟨by decide +kernel, rfl⟩
theorem f0_77 : Dec code 77 (.sipush 255) 3 80 := ⟨by decide +kernel, rfl⟩
theorem f0_80 : Dec code 80 (.iand) 1 81 := ⟨by decide +kernel, rfl⟩
theorem f0_81 : Dec code 81 (.i2c) 1 82 := ⟨by decide +kernel, rfl⟩
theorem f0_82 : Dec code 82 (.castore) 1 83 := ⟨by decide +kernel, rfl⟩
theorem f0_83 : Dec code 83 (.aload 9) 2 85 := ⟨by decide +kernel, rfl⟩
theorem f0_85 : Dec code 85 (.iconst 1) 1 86 := ⟨by decide +kernel, rfl⟩
theorem f0_86 : Dec code 86 (.iload 5) 2 88 := ⟨by decide +kernel, rfl⟩
theorem f0_88 : Dec code 88 (.sipush 255) 3 91 := ⟨by decide +kernel, rfl⟩
theorem f0_91 : Dec code 91 (.iand) 1 92 := ⟨by decide +kernel, rfl⟩
theorem f0_92 : Dec code 92 (.i2c) 1 93 := ⟨by decide +kernel, rfl⟩
theorem f0_93 : Dec code 93 (.castore) 1 94 := ⟨by decide +kernel, rfl⟩
theorem f0_94 : Dec code 94 (.new 19) 3 97 := ⟨by decide +kernel, rfl⟩
theorem f0_97 : Dec code 97 (.dup) 1 98 := ⟨by decide +kernel, rfl⟩
theorem f0_98 : Dec code 98 (.aload 9) 2 100 := ⟨by decide +kernel, rfl⟩
theorem f0_100 : Dec code 100 (.invokespecial 21) 3 103 := ⟨by decide +kernel, rfl⟩
theorem f0_103 : Dec code 103 (.astore 7) 2 105 := ⟨by decide +kernel, rfl⟩
theorem f0_105 : Dec code 105 (.ldc 19) 2 107 := ⟨by decide +kernel, rfl⟩
theorem f0_107 : Dec code 107 (.astore 8) 2 109 := ⟨by decide +kernel, rfl⟩
theorem f0_109 : DecJ code 109 (.goto 57) 57 166 112 := ⟨by decide +kernel, by decide, by decide, rfl⟩
theorem f0_112 : Dec code 112 (.iload 6) 2 114 := ⟨by decide +kernel, rfl⟩
theorem f0_114 : Dec code 114 (.iconst 4) 1 115 := ⟨by decide +kernel, rfl⟩
theorem f0_115 : DecJ code 115 (.if_icmp .ne 33) 33 148 118 := ⟨by decide +kernel, by decide, by decide, rfl⟩
theorem f0_118 : Dec code 118 (.new 24) 3 121 := ⟨by decide +kernel, rfl⟩
theorem f0_121 : Dec code 121 (.dup) 1 122 := ⟨by decide +kernel, rfl⟩
theorem f0_122 : Dec code 122 (.invokespecial 26) 3 125 := ⟨by decide +kernel, rfl⟩
theorem f0_125 : Dec code 125 (.astore 9) 2 127 := ⟨by decide +kernel, rfl⟩
theorem f0_127 : Dec code 127 (.aload 9) 2 129 := ⟨by decide +kernel, rfl⟩
theorem f0_129 : Dec code 129 (.iload_n 1) 1 130 := ⟨by decide +kernel, rfl⟩
theorem f0_130 : Dec code 130 (.invokestatic 8) 3 133 := ⟨by decide +kernel, rfl⟩
theorem f0_133 : Dec code 133 (.invokevirtual 27) 3 136 := ⟨by decide +kernel, rfl⟩
theorem f0_136 : Dec code 136 (.pop) 1 137 := ⟨by decide +kernel, rfl⟩
theorem f0_137 : Dec code 137 (.aload 9) 2 139 := ⟨by decide +kernel, rfl⟩
theorem f0_139 : Dec code 139 (.astore 7) 2 141 := ⟨by decide +kernel, rfl⟩
theorem f0_141 : Dec code 141 (.ldc 24) 2 143 := ⟨by decide +kernel, rfl⟩
theorem f0_143 : Dec code 143 (.astore 8) 2 145 := ⟨by decide +kernel, rfl⟩
theorem f0_145 : DecJ code 145 (.goto 21) 21 166 148 := ⟨by decide +kernel, by decide, by decide, rfl⟩
theorem f0_148 : Dec code 148 (.iconst 1) 1 149 := ⟨by decide +kernel, rfl⟩
theorem f0_149 : Dec code 149 (.newarray .int) 2 151 := ⟨by decide +kernel, rfl⟩
theorem f0_151 : Dec code 151 (.astore 9) 2 153 := ⟨by decide +kernel, rfl⟩
theorem f0_153 : Dec code 153 (.aload 9) 2 155 := ⟨by decide +kernel, rfl⟩
theorem f0_155 : Dec code 155 (.iconst 0) 1 156 := ⟨by decide +kernel, rfl⟩
theorem f0_156 : Dec code 156 (.iload_n 1) 1 157 := ⟨by decide +kernel, rfl⟩
theorem f0_157 : Dec code 157 (.iastore) 1 158 := ⟨by decide +kernel, rfl⟩
theorem f0_158 : Dec code 158 (.aload 9) 2 160 := ⟨by decide +kernel, rfl⟩
theorem f0_160 : Dec code 160 (.astore 7) 2 162 := ⟨by decide +kernel, rfl⟩
theorem f0_162 : Dec code 162 (.ldc 31) 2 164 := ⟨by decide +kernel, rfl⟩
theorem f0_164 : Dec code 164 (.astore 8) 2 166 := ⟨by decide +kernel, rfl⟩
theorem f0_166 : Dec code 166 (.aload 7) 2 168 := ⟨by decide +kernel, rfl⟩
theorem f0_168 : Dec code 168 (.invokestatic 33) 3 171 := ⟨by decide +kernel, rfl⟩
theorem f0_171 : Dec code 171 (.astore 9) 2 173 := ⟨by decide +kernel, rfl⟩
theorem f0_173 : Dec code 173 (.aload 9) 2 175 := ⟨by decide +kernel, rfl⟩
theorem f0_175 : Dec code 175 (.invokevirtual 39) 3 178 := ⟨by decide +kernel, rfl⟩
theorem f0_178 : Dec code 178 (.aload 7) 2 180 := ⟨by decide +kernel, rfl⟩
theorem f0_180 : DecJ code 180 (.if_acmp .ne 17) 17 197 183 := ⟨by decide +kernel, by decide, by decide, rfl⟩
theorem f0_183 : Dec code 183 (.aload 9) 2 185 := ⟨by decide +kernel, rfl⟩
theorem f0_185 : Dec code 185 (.invokevirtual 43) 3 188 := ⟨by decide +kernel, rfl⟩
theorem f0_188 : Dec code 188 (.aload 8) 2 190 := ⟨by decide +kernel, rfl⟩
theorem f0_190 : DecJ code 190 (.if_acmp .ne 7) 7 197 193 := ⟨by decide +kernel, by decide, by decide, rfl⟩
theorem f0_193 : Dec code 193 (.iconst 1) 1 194 := ⟨by decide +kernel, rfl⟩
theorem f0_194 : DecJ code 194 (.goto 4) 4 198 197 := ⟨by decide +kernel, by decide, by decide, rfl⟩
theorem f0_198 : Dec code 198 (.ireturn) 1 199 := ⟨by decide +kernel, rfl⟩
theorem pn_0 : plainFor x = true := plainFor_of_name (show plainName "io/invocant/cli/ValueOfPinLaw" = true by first | (simp [plainName, overriddenIn]; done) | decide +kernel)
theorem ef_0 (m : MethodId) (kn : Int32) (xv : Int32) (yv : Int64) (c0 : Int32) (c1 : Int32) : entryFrame m #[(.int kn), (.int xv), (.long yv), (.int c0), (.int c1)] maxLocals = mkF m 0 #[.val (.int kn), .val (.int xv), .val (.long yv), .second, .val (.int c0), .val (.int c1), .unset, .unset, .unset, .unset] [] := by first | (simp [entryFrame, mkF, argsToLocals, Value.category, maxLocals]; done) | rfl
def Q0 (n0 : Nat) (v : Option Value) (h : Heap) (L : List Loc) : Prop := v = some (.int 1) ∧ Fr n0 L
set_option maxRecDepth 65536 in
set_option maxHeartbeats 40000000 in
theorem rm0 (l : Launch) (Z : State) (a0 : Array Value) (hw : ∀ d ∈ tables_1, d.before a0 Z = true) (ws : List Jvm.Cond) (kn : Int32) (xv : Int32) (yv : Int64) (c0 : Int32) (c1 : Int32) (de : Addr) (kd : ClassId) (ci : Addr) (cj : Addr) (cs : Int32) (mA : Addr) (mS : Addr) (mL : Addr) (mI : Addr) (mB : Addr) (h0 : Heap) (n0 : Nat) (Z0 : n0 ≤ h0.size) (Sta_0 : Sta Z h0 "java/util/ArrayList" "DEFAULTCAPACITY_EMPTY_ELEMENTDATA" "[Ljava/lang/Object;" (.ref de)) (Arv_1 : Arv Z h0 de kd (.object "java/lang/Object") (0 : Int32) [] .null) (Sta_2 : Sta Z h0 "java/lang/Integer$IntegerCache" "high" "I" (.int (127 : Int32))) (Sta_3 : Sta Z h0 "java/lang/Integer$IntegerCache" "cache" "[Ljava/lang/Integer;" (.ref ci)) (Cac_4 : own_Cac Z h0 ci "java/lang/Integer") (Sta_5 : Sta Z h0 "java/lang/Long$LongCache" "cache" "[Ljava/lang/Long;" (.ref cj)) (Cac_6 : own_Cac Z h0 cj "java/lang/Long") (Sta_7 : Sta Z h0 "java/lang/String" "COMPACT_STRINGS" "Z" (.int cs)) (hcs : ¬ cs = (0 : Int32)) (Mir_9 : own_Mir Z "java/util/ArrayList" mA) (Mir_10 : own_Mir Z "java/lang/String" mS) (Mir_11 : own_Mir Z "java/lang/Long" mL) (Mir_12 : own_Mir Z "java/lang/Integer" mI) (Mir_13 : own_Mir Z "[I" mB) :
    MetFree l x (head1 (Jvm.Cond.code x code maxLocals ret :: ws) room_1) (fun A9 U9 => A9 = #[(.int kn), (.int xv), (.long yv), (.int c0), (.int c1)] ∧ Z.Warmed39 U9.vm ∧ U9.heap = h0) (fun _ _ _ _ _ => True) (fun _ U9 o9 V9 => ∃ v9 L9, o9 = .returned v9 ∧ (Q0 n0) v9 V9.heap L9 ∧ FrameEnd U9 o9 V9 L9 room_1.cells room_1.slots) := by
  refine met_of (Q := (Q0 n0)) pn_0 ?_
  intro p e s m below meth c T0 C X0 e0
  have N0 := Fr.nil n0
  refine Go.cast (ef_0 m kn xv yv c0 c1) ?_
  refine wiloadN C X0 f0_0 rfl ?_
  refine wldcI C X0 (tw_0 hw) f0_1 ?_
  refine wiand C X0 f0_3 ?_
  refine wbipush C X0 f0_4 (6 : Int32) bp_b_6 ?_
  refine wirem C X0 f0_6 (by decide) ?_
  refine wistore C X0 f0_7 #[.val (.int kn), .val (.int xv), .val (.long yv), .second, .val (.int c0), .val (.int c1), .val (.int ((kn &&& (2147483647 : Int32)) % (6 : Int32))), .unset, .unset, .unset] rfl ?_
  refine wiload C X0 f0_9 rfl ?_
  refine wif_ne C X0 f0_11 (fun hc11 => ?_) (fun hc11 => ?_)
  · refine wnull C X0 f0_14 ?_
    refine wastore C X0 f0_15 #[.val (.int kn), .val (.int xv), .val (.long yv), .second, .val (.int c0), .val (.int c1), .val (.int ((kn &&& (2147483647 : Int32)) % (6 : Int32))), .val .null, .unset, .unset] rfl rfl ?_
    refine wnull C X0 f0_17 ?_
    refine wastore C X0 f0_18 #[.val (.int kn), .val (.int xv), .val (.long yv), .second, .val (.int c0), .val (.int c1), .val (.int ((kn &&& (2147483647 : Int32)) % (6 : Int32))), .val .null, .val .null, .unset] rfl rfl ?_
    refine wgoto C X0 f0_20 ?_
    refine waload C X0 f0_166 rfl rfl ?_
    refine wstatic C X0 (y := (⟨"io/invocant/cli/Expression$Value", "of", "(Ljava/lang/Object;)Lio/invocant/cli/Expression$Value;"⟩ : MethodName)) (tw_1 hw) (tw_2 hw) (tw_3 hw) (tw_4 hw) (by decide) (rm1n l Z a0 hw []  h0 n0 Z0) e0 f0_168 (argsL := [.null]) (rest := []) rfl rfl (lenOf pd_12 rfl) rfl (W := 0) (Nat.le_of_eq rfl) (by decide) (by decide) (by decide) (by decide) ?_
    intro v1 T1 L1 X1 q1
    obtain ⟨b9_1, rfl, Nq1, K1, G1_0, G1_1, G1_2, G1_3⟩ := q1
    have Sk1_0 := own_sta_keep Sta_0 K1 all0
    have Sk1_1 := own_sta_keep Sta_2 K1 all0
    have Sk1_2 := own_sta_keep Sta_3 K1 all0
    have Sk1_3 := own_sta_keep Sta_5 K1 all0
    have Sk1_4 := own_sta_keep Sta_7 K1 all0
    have szG1_0 : h0.size ≤ b9_1 := Nat.le_trans (Nat.le_refl h0.size) G1_0
    have N1 := Fr.app N0 Nq1
    show Go p e below s _ _ _ T1 (mkF m 171 #[.val (.int kn), .val (.int xv), .val (.long yv), .second, .val (.int c0), .val (.int c1), .val (.int ((kn &&& (2147483647 : Int32)) % (6 : Int32))), .val .null, .val .null, .unset] [(.ref b9_1)])
    refine wastore C X1 f0_171 #[.val (.int kn), .val (.int xv), .val (.long yv), .second, .val (.int c0), .val (.int c1), .val (.int ((kn &&& (2147483647 : Int32)) % (6 : Int32))), .val .null, .val .null, .val (.ref b9_1)] rfl rfl ?_
    refine waload C X1 f0_173 rfl rfl ?_
    refine wvirtual C X1 (y := (⟨"io/invocant/cli/Expression$Value", "value", "()Ljava/lang/Object;"⟩ : MethodName)) (z := (⟨"io/invocant/cli/Expression$Value", "value", "()Ljava/lang/Object;"⟩ : MethodName)) (tw_22 hw) (tw_23 hw) (notFace_of_selects (args := #[]) (mvT C.2.1 (tw_25 hw))) (tw_25 hw) (tw_24 hw) (tw_26 hw) (tw_3 hw) (by decide) (rm5n l Z a0 hw [] b9_1 T1.heap n0 (Nat.le_trans Z0 K1.1) G1_3) rfl (a := b9_1) G1_1 f0_175 (argsL := []) (rest := []) rfl rfl (lenOf pd_13 rfl) rfl (W := 0) (Nat.le_of_eq rfl) (by decide) (by decide) (by decide) (by decide) ?_
    intro v2 T2 L2 X2 q2
    obtain ⟨rfl, Nq2, eq2⟩ := q2
    have N2 := Fr.app N1 Nq2
    show Go p e below s _ _ _ T2 (mkF m 178 #[.val (.int kn), .val (.int xv), .val (.long yv), .second, .val (.int c0), .val (.int c1), .val (.int ((kn &&& (2147483647 : Int32)) % (6 : Int32))), .val .null, .val .null, .val (.ref b9_1)] [.null])
    refine waload C X2 f0_178 rfl rfl ?_
    refine wacmp_ne C X2 rfl rfl f0_180 ?_ (fun q => absurd rfl q)
    intro _
    refine waload C X2 f0_183 rfl rfl ?_
    refine wvirtual C X2 (y := (⟨"io/invocant/cli/Expression$Value", "type", "()Ljava/lang/Class;"⟩ : MethodName)) (z := (⟨"io/invocant/cli/Expression$Value", "type", "()Ljava/lang/Class;"⟩ : MethodName)) (tw_27 hw) (tw_28 hw) (notFace_of_selects (args := #[]) (mvT C.2.1 (tw_30 hw))) (tw_30 hw) (tw_29 hw) (tw_31 hw) (tw_3 hw) (by decide) (rm6n l Z a0 hw [] b9_1 T1.heap n0 (Nat.le_trans Z0 K1.1) G1_2) eq2 (a := b9_1) G1_1 f0_185 (argsL := []) (rest := []) rfl rfl (lenOf pd_14 rfl) rfl (W := 0) (Nat.le_of_eq rfl) (by decide) (by decide) (by decide) (by decide) ?_
    intro v3 T3 L3 X3 q3
    obtain ⟨rfl, Nq3, eq3⟩ := q3
    have N3 := Fr.app N2 Nq3
    show Go p e below s _ _ _ T3 (mkF m 188 #[.val (.int kn), .val (.int xv), .val (.long yv), .second, .val (.int c0), .val (.int c1), .val (.int ((kn &&& (2147483647 : Int32)) % (6 : Int32))), .val .null, .val .null, .val (.ref b9_1)] [.null])
    refine waload C X3 f0_188 rfl rfl ?_
    refine wacmp_ne C X3 rfl rfl f0_190 ?_ (fun q => absurd rfl q)
    intro _
    refine wiconst C X3 f0_193 (1 : Int32) rfl ?_
    refine wgoto C X3 f0_194 ?_
    refine wiretN C X3 (t := .boolean) (by simp) f0_198 rfl (1 : Int32) (by decide) (by decide) (by decide) ?_
    rw [eq3]
    exact ⟨rfl, N3⟩
  · refine wiload C X0 f0_23 rfl ?_
    refine wiconst C X0 f0_25 (1 : Int32) rfl ?_
    refine wicmp_ne C X0 f0_26 (fun hc26 => ?_) (fun hc26 => ?_)
    · refine wiloadN C X0 f0_29 rfl ?_
      refine wstatic C X0 (y := (⟨"java/lang/Integer", "valueOf", "(I)Ljava/lang/Integer;"⟩ : MethodName)) (tw_56 hw) (tw_57 hw) (tw_58 hw) (tw_59 hw) (by decide) (rm10 l Z a0 hw [] xv ci h0 n0 Z0 Sta_2 Sta_3 Cac_4) e0 f0_30 (argsL := [(.int xv)]) (rest := []) rfl rfl (lenOf pd_15 rfl) rfl (W := 0) (Nat.le_of_eq rfl) (by decide) (by decide) (by decide) (by decide) ?_
      intro v4 T4 L4 X4 q4
      obtain ⟨b9_4, rfl, Nq4, K4, G4_0⟩ := q4
      have Sk4_0 := own_sta_keep Sta_0 K4 all0
      have Sk4_1 := own_sta_keep Sta_2 K4 all0
      have Sk4_2 := own_sta_keep Sta_3 K4 all0
      have Sk4_3 := own_sta_keep Sta_5 K4 all0
      have Sk4_4 := own_sta_keep Sta_7 K4 all0
      have N4 := Fr.app N0 Nq4
      show Go p e below s _ _ _ T4 (mkF m 33 #[.val (.int kn), .val (.int xv), .val (.long yv), .second, .val (.int c0), .val (.int c1), .val (.int ((kn &&& (2147483647 : Int32)) % (6 : Int32))), .unset, .unset, .unset] [(.ref b9_4)])
      refine wastore C X4 f0_33 #[.val (.int kn), .val (.int xv), .val (.long yv), .second, .val (.int c0), .val (.int c1), .val (.int ((kn &&& (2147483647 : Int32)) % (6 : Int32))), .val (.ref b9_4), .unset, .unset] rfl rfl ?_
      refine wldcC C X4 (tw_151 hw) Mir_12 rfl f0_35 ?_
      intro T5 X5 e5
      refine wastore C X5 f0_37 #[.val (.int kn), .val (.int xv), .val (.long yv), .second, .val (.int c0), .val (.int c1), .val (.int ((kn &&& (2147483647 : Int32)) % (6 : Int32))), .val (.ref b9_4), .val (.ref mI), .unset] rfl rfl ?_
      refine wgoto C X5 f0_39 ?_
      refine waload C X5 f0_166 rfl rfl ?_
      refine wstatic C X5 (y := (⟨"io/invocant/cli/Expression$Value", "of", "(Ljava/lang/Object;)Lio/invocant/cli/Expression$Value;"⟩ : MethodName)) (tw_1 hw) (tw_2 hw) (tw_3 hw) (tw_4 hw) (by decide) (rm1I l Z a0 hw [] b9_4 mI T4.heap n0 (Nat.le_trans Z0 K4.1) G4_0 Mir_12) e5 f0_168 (argsL := [(.ref b9_4)]) (rest := []) rfl rfl (lenOf pd_12 rfl) rfl (W := 0) (Nat.le_of_eq rfl) (by decide) (by decide) (by decide) (by decide) ?_
      intro v6 T6 L6 X6 q6
      obtain ⟨b9_6, rfl, Nq6, K6, G6_0, G6_1, G6_2, G6_3⟩ := q6
      have Sk6_0 := own_sta_keep Sk4_0 K6 all0
      have Sk6_1 := own_sta_keep Sk4_1 K6 all0
      have Sk6_2 := own_sta_keep Sk4_2 K6 all0
      have Sk6_3 := own_sta_keep Sk4_3 K6 all0
      have Sk6_4 := own_sta_keep Sk4_4 K6 all0
      have szG6_0 : h0.size ≤ b9_6 := Nat.le_trans (Nat.le_trans (Nat.le_refl h0.size) K4.1) G6_0
      have N6 := Fr.app N4 Nq6
      show Go p e below s _ _ _ T6 (mkF m 171 #[.val (.int kn), .val (.int xv), .val (.long yv), .second, .val (.int c0), .val (.int c1), .val (.int ((kn &&& (2147483647 : Int32)) % (6 : Int32))), .val (.ref b9_4), .val (.ref mI), .unset] [(.ref b9_6)])
      refine wastore C X6 f0_171 #[.val (.int kn), .val (.int xv), .val (.long yv), .second, .val (.int c0), .val (.int c1), .val (.int ((kn &&& (2147483647 : Int32)) % (6 : Int32))), .val (.ref b9_4), .val (.ref mI), .val (.ref b9_6)] rfl rfl ?_
      refine waload C X6 f0_173 rfl rfl ?_
      refine wvirtual C X6 (y := (⟨"io/invocant/cli/Expression$Value", "value", "()Ljava/lang/Object;"⟩ : MethodName)) (z := (⟨"io/invocant/cli/Expression$Value", "value", "()Ljava/lang/Object;"⟩ : MethodName)) (tw_22 hw) (tw_23 hw) (notFace_of_selects (args := #[]) (mvT C.2.1 (tw_25 hw))) (tw_25 hw) (tw_24 hw) (tw_26 hw) (tw_3 hw) (by decide) (rm5o l Z a0 hw [] b9_6 b9_4 T6.heap n0 (Nat.le_trans (Nat.le_trans Z0 K4.1) K6.1) G6_3) rfl (a := b9_6) G6_1 f0_175 (argsL := []) (rest := []) rfl rfl (lenOf pd_13 rfl) rfl (W := 0) (Nat.le_of_eq rfl) (by decide) (by decide) (by decide) (by decide) ?_
      intro v7 T7 L7 X7 q7
      obtain ⟨rfl, Nq7, eq7⟩ := q7
      have N7 := Fr.app N6 Nq7
      show Go p e below s _ _ _ T7 (mkF m 178 #[.val (.int kn), .val (.int xv), .val (.long yv), .second, .val (.int c0), .val (.int c1), .val (.int ((kn &&& (2147483647 : Int32)) % (6 : Int32))), .val (.ref b9_4), .val (.ref mI), .val (.ref b9_6)] [(.ref b9_4)])
      refine waload C X7 f0_178 rfl rfl ?_
      refine wacmp_ne C X7 rfl rfl f0_180 ?_ (fun q => absurd rfl q)
      intro _
      refine waload C X7 f0_183 rfl rfl ?_
      refine wvirtual C X7 (y := (⟨"io/invocant/cli/Expression$Value", "type", "()Ljava/lang/Class;"⟩ : MethodName)) (z := (⟨"io/invocant/cli/Expression$Value", "type", "()Ljava/lang/Class;"⟩ : MethodName)) (tw_27 hw) (tw_28 hw) (notFace_of_selects (args := #[]) (mvT C.2.1 (tw_30 hw))) (tw_30 hw) (tw_29 hw) (tw_31 hw) (tw_3 hw) (by decide) (rm6o l Z a0 hw [] b9_6 mI T6.heap n0 (Nat.le_trans (Nat.le_trans Z0 K4.1) K6.1) G6_2) eq7 (a := b9_6) G6_1 f0_185 (argsL := []) (rest := []) rfl rfl (lenOf pd_14 rfl) rfl (W := 0) (Nat.le_of_eq rfl) (by decide) (by decide) (by decide) (by decide) ?_
      intro v8 T8 L8 X8 q8
      obtain ⟨rfl, Nq8, eq8⟩ := q8
      have N8 := Fr.app N7 Nq8
      show Go p e below s _ _ _ T8 (mkF m 188 #[.val (.int kn), .val (.int xv), .val (.long yv), .second, .val (.int c0), .val (.int c1), .val (.int ((kn &&& (2147483647 : Int32)) % (6 : Int32))), .val (.ref b9_4), .val (.ref mI), .val (.ref b9_6)] [(.ref mI)])
      refine waload C X8 f0_188 rfl rfl ?_
      refine wacmp_ne C X8 rfl rfl f0_190 ?_ (fun q => absurd rfl q)
      intro _
      refine wiconst C X8 f0_193 (1 : Int32) rfl ?_
      refine wgoto C X8 f0_194 ?_
      refine wiretN C X8 (t := .boolean) (by simp) f0_198 rfl (1 : Int32) (by decide) (by decide) (by decide) ?_
      rw [eq8]
      exact ⟨rfl, N8⟩
    · refine wiload C X0 f0_42 rfl ?_
      refine wiconst C X0 f0_44 (2 : Int32) rfl ?_
      refine wicmp_ne C X0 f0_45 (fun hc45 => ?_) (fun hc45 => ?_)
      · refine wlloadN C X0 f0_48 rfl ?_
        refine wstatic C X0 (y := (⟨"java/lang/Long", "valueOf", "(J)Ljava/lang/Long;"⟩ : MethodName)) (tw_129 hw) (tw_130 hw) (tw_131 hw) (tw_132 hw) (by decide) (rm21 l Z a0 hw [] yv cj h0 n0 Z0 Sta_5 Cac_6) e0 f0_49 (argsL := [(.long yv)]) (rest := []) rfl rfl (lenOf pd_16 rfl) rfl (W := 0) (Nat.le_of_eq rfl) (by decide) (by decide) (by decide) (by decide) ?_
        intro v9 T9 L9 X9 q9
        obtain ⟨b9_9, rfl, Nq9, K9, G9_0⟩ := q9
        have Sk9_0 := own_sta_keep Sta_0 K9 all0
        have Sk9_1 := own_sta_keep Sta_2 K9 all0
        have Sk9_2 := own_sta_keep Sta_3 K9 all0
        have Sk9_3 := own_sta_keep Sta_5 K9 all0
        have Sk9_4 := own_sta_keep Sta_7 K9 all0
        have N9 := Fr.app N0 Nq9
        show Go p e below s _ _ _ T9 (mkF m 52 #[.val (.int kn), .val (.int xv), .val (.long yv), .second, .val (.int c0), .val (.int c1), .val (.int ((kn &&& (2147483647 : Int32)) % (6 : Int32))), .unset, .unset, .unset] [(.ref b9_9)])
        refine wastore C X9 f0_52 #[.val (.int kn), .val (.int xv), .val (.long yv), .second, .val (.int c0), .val (.int c1), .val (.int ((kn &&& (2147483647 : Int32)) % (6 : Int32))), .val (.ref b9_9), .unset, .unset] rfl rfl ?_
        refine wldcC C X9 (tw_149 hw) Mir_11 rfl f0_54 ?_
        intro T10 X10 e10
        refine wastore C X10 f0_56 #[.val (.int kn), .val (.int xv), .val (.long yv), .second, .val (.int c0), .val (.int c1), .val (.int ((kn &&& (2147483647 : Int32)) % (6 : Int32))), .val (.ref b9_9), .val (.ref mL), .unset] rfl rfl ?_
        refine wgoto C X10 f0_58 ?_
        refine waload C X10 f0_166 rfl rfl ?_
        refine wstatic C X10 (y := (⟨"io/invocant/cli/Expression$Value", "of", "(Ljava/lang/Object;)Lio/invocant/cli/Expression$Value;"⟩ : MethodName)) (tw_1 hw) (tw_2 hw) (tw_3 hw) (tw_4 hw) (by decide) (rm1L l Z a0 hw [] b9_9 mL T9.heap n0 (Nat.le_trans Z0 K9.1) G9_0 Mir_11) e10 f0_168 (argsL := [(.ref b9_9)]) (rest := []) rfl rfl (lenOf pd_12 rfl) rfl (W := 0) (Nat.le_of_eq rfl) (by decide) (by decide) (by decide) (by decide) ?_
        intro v11 T11 L11 X11 q11
        obtain ⟨b9_11, rfl, Nq11, K11, G11_0, G11_1, G11_2, G11_3⟩ := q11
        have Sk11_0 := own_sta_keep Sk9_0 K11 all0
        have Sk11_1 := own_sta_keep Sk9_1 K11 all0
        have Sk11_2 := own_sta_keep Sk9_2 K11 all0
        have Sk11_3 := own_sta_keep Sk9_3 K11 all0
        have Sk11_4 := own_sta_keep Sk9_4 K11 all0
        have szG11_0 : h0.size ≤ b9_11 := Nat.le_trans (Nat.le_trans (Nat.le_refl h0.size) K9.1) G11_0
        have N11 := Fr.app N9 Nq11
        show Go p e below s _ _ _ T11 (mkF m 171 #[.val (.int kn), .val (.int xv), .val (.long yv), .second, .val (.int c0), .val (.int c1), .val (.int ((kn &&& (2147483647 : Int32)) % (6 : Int32))), .val (.ref b9_9), .val (.ref mL), .unset] [(.ref b9_11)])
        refine wastore C X11 f0_171 #[.val (.int kn), .val (.int xv), .val (.long yv), .second, .val (.int c0), .val (.int c1), .val (.int ((kn &&& (2147483647 : Int32)) % (6 : Int32))), .val (.ref b9_9), .val (.ref mL), .val (.ref b9_11)] rfl rfl ?_
        refine waload C X11 f0_173 rfl rfl ?_
        refine wvirtual C X11 (y := (⟨"io/invocant/cli/Expression$Value", "value", "()Ljava/lang/Object;"⟩ : MethodName)) (z := (⟨"io/invocant/cli/Expression$Value", "value", "()Ljava/lang/Object;"⟩ : MethodName)) (tw_22 hw) (tw_23 hw) (notFace_of_selects (args := #[]) (mvT C.2.1 (tw_25 hw))) (tw_25 hw) (tw_24 hw) (tw_26 hw) (tw_3 hw) (by decide) (rm5o l Z a0 hw [] b9_11 b9_9 T11.heap n0 (Nat.le_trans (Nat.le_trans Z0 K9.1) K11.1) G11_3) rfl (a := b9_11) G11_1 f0_175 (argsL := []) (rest := []) rfl rfl (lenOf pd_13 rfl) rfl (W := 0) (Nat.le_of_eq rfl) (by decide) (by decide) (by decide) (by decide) ?_
        intro v12 T12 L12 X12 q12
        obtain ⟨rfl, Nq12, eq12⟩ := q12
        have N12 := Fr.app N11 Nq12
        show Go p e below s _ _ _ T12 (mkF m 178 #[.val (.int kn), .val (.int xv), .val (.long yv), .second, .val (.int c0), .val (.int c1), .val (.int ((kn &&& (2147483647 : Int32)) % (6 : Int32))), .val (.ref b9_9), .val (.ref mL), .val (.ref b9_11)] [(.ref b9_9)])
        refine waload C X12 f0_178 rfl rfl ?_
        refine wacmp_ne C X12 rfl rfl f0_180 ?_ (fun q => absurd rfl q)
        intro _
        refine waload C X12 f0_183 rfl rfl ?_
        refine wvirtual C X12 (y := (⟨"io/invocant/cli/Expression$Value", "type", "()Ljava/lang/Class;"⟩ : MethodName)) (z := (⟨"io/invocant/cli/Expression$Value", "type", "()Ljava/lang/Class;"⟩ : MethodName)) (tw_27 hw) (tw_28 hw) (notFace_of_selects (args := #[]) (mvT C.2.1 (tw_30 hw))) (tw_30 hw) (tw_29 hw) (tw_31 hw) (tw_3 hw) (by decide) (rm6o l Z a0 hw [] b9_11 mL T11.heap n0 (Nat.le_trans (Nat.le_trans Z0 K9.1) K11.1) G11_2) eq12 (a := b9_11) G11_1 f0_185 (argsL := []) (rest := []) rfl rfl (lenOf pd_14 rfl) rfl (W := 0) (Nat.le_of_eq rfl) (by decide) (by decide) (by decide) (by decide) ?_
        intro v13 T13 L13 X13 q13
        obtain ⟨rfl, Nq13, eq13⟩ := q13
        have N13 := Fr.app N12 Nq13
        show Go p e below s _ _ _ T13 (mkF m 188 #[.val (.int kn), .val (.int xv), .val (.long yv), .second, .val (.int c0), .val (.int c1), .val (.int ((kn &&& (2147483647 : Int32)) % (6 : Int32))), .val (.ref b9_9), .val (.ref mL), .val (.ref b9_11)] [(.ref mL)])
        refine waload C X13 f0_188 rfl rfl ?_
        refine wacmp_ne C X13 rfl rfl f0_190 ?_ (fun q => absurd rfl q)
        intro _
        refine wiconst C X13 f0_193 (1 : Int32) rfl ?_
        refine wgoto C X13 f0_194 ?_
        refine wiretN C X13 (t := .boolean) (by simp) f0_198 rfl (1 : Int32) (by decide) (by decide) (by decide) ?_
        rw [eq13]
        exact ⟨rfl, N13⟩
      · refine wiload C X0 f0_61 rfl ?_
        refine wiconst C X0 f0_63 (3 : Int32) rfl ?_
        refine wicmp_ne C X0 f0_64 (fun hc64 => ?_) (fun hc64 => ?_)
        · refine wiconst C X0 f0_67 (2 : Int32) rfl ?_
          refine wnewarrE C X0 (aty := .char) (ad := "[C") (tw_100 hw) (by decide) e0 f0_68 (by decide) (cap := 2) (by decide) (by decide) (by decide) (by decide) ?_
          intro T14 h14 b14 k14 g14 X14 e14 E14 V14 Ea14
          have sz14 : h0.size ≤ b14 := Nat.le_trans (Nat.le_refl h0.size) (Nat.le_of_eq g14.symm)
          have Vp14 : Arv Z h14 b14 k14 .char (2 : Int32) [(.int (0 : Int32)), (.int (0 : Int32))] (.int (0 : Int32)) := Arv.pad V14 (pad_rep [] (.int (0 : Int32)) 2)
          refine wastore C X14 f0_70 #[.val (.int kn), .val (.int xv), .val (.long yv), .second, .val (.int c0), .val (.int c1), .val (.int ((kn &&& (2147483647 : Int32)) % (6 : Int32))), .unset, .unset, .val (.ref b14)] rfl rfl ?_
          refine waload C X14 f0_72 rfl rfl ?_
          refine wiconst C X14 f0_74 (0 : Int32) rfl ?_
          refine wiload C X14 f0_75 rfl ?_
          refine wsipush C X14 f0_77 (255 : Int32) bp_s_255 ?_
          refine wiand C X14 f0_80 ?_
          refine wi2c C X14 f0_81 ?_
          have Bu0 := own_chr c0
          generalize (c0 &&& (255 : Int32)).toUInt32.toUInt16.toUInt32.toInt32 = u0 at Bu0 ⊢
          refine wcastore C X14 e14 Vp14 f0_82 ⟨by decide, by decide⟩ 0 rfl (show (0 : Nat) < 2 by decide) [(.int u0), (.int (0 : Int32))] (by rw [Bu0.2]; rfl) ?_
          intro T15 h15 sl15 w15 X15 e15 W15 V15
          have N15 := Fr.snoc X15 N0 (Nat.le_trans Z0 sz14)
          refine waload C X15 f0_83 rfl rfl ?_
          refine wiconst C X15 f0_85 (1 : Int32) rfl ?_
          refine wiload C X15 f0_86 rfl ?_
          refine wsipush C X15 f0_88 (255 : Int32) bp_s_255 ?_
          refine wiand C X15 f0_91 ?_
          refine wi2c C X15 f0_92 ?_
          have Bu1 := own_chr c1
          generalize (c1 &&& (255 : Int32)).toUInt32.toUInt16.toUInt32.toInt32 = u1 at Bu1 ⊢
          refine wcastore C X15 e15 V15 f0_93 ⟨by decide, by decide⟩ 1 rfl (show (1 : Nat) < 2 by decide) [(.int u0), (.int u1)] (by rw [Bu1.2]; rfl) ?_
          intro T16 h16 sl16 w16 X16 e16 W16 V16
          have N16 := Fr.snoc X16 N15 (Nat.le_trans Z0 sz14)
          have q18 := (Nat.le_trans (Nat.le_trans (Nat.le_trans Z0 E14.1) (Nat.le_of_eq W15.size.symm)) (Nat.le_of_eq W16.size.symm))
          have q19 := (Nat.le_trans (Nat.le_trans (Nat.le_trans (Nat.le_refl h0.size) E14.1) (Nat.le_of_eq W15.size.symm)) (Nat.le_of_eq W16.size.symm))
          refine wnew C X16 (tw_101 hw) (tw_102 hw) (tw_103 hw) e16 f0_94 (by decide) (by decide) ?_
          intro T17 h17 b17 g17 X17 e17 E17 A17 D17
          have sz17 : h0.size ≤ b17 := Nat.le_trans q19 (Nat.le_of_eq g17.symm)
          have F17_coder : Fld Z h17 b17 "java/lang/String" "coder" "B" (.int (0 : Int32)) := D17 (Or.inr (tw_125 hw)) (ty := .byte) (by decide)
          have F17_value : Fld Z h17 b17 "java/lang/String" "value" "[B" .null := D17 (Or.inr (tw_127 hw)) (ty := (.array .byte)) (by decide)
          refine wdup C X17 f0_97 rfl ?_
          refine waload C X17 f0_98 rfl rfl ?_
          refine wspecial C X17 (y := (⟨"java/lang/String", "<init>", "([C)V"⟩ : MethodName)) rfl (tw_104 hw) (tw_105 hw) (tw_106 hw) (tw_103 hw) rfl (by decide) (rm16 l Z a0 hw [] b17 b14 k14 u0 u1 cs h17 n0 (Nat.le_trans q18 E17.1) A17 F17_coder F17_value (V16.ext E17) ((((Sta_7.ext E14).wr W15).wr W16).ext E17) hcs (Nat.le_trans Z0 sz17) Bu0.1 Bu1.1) e17 f0_100 (a := b17) (argsL := [(.ref b14)]) (rest := [(.ref b17)]) rfl rfl (lenOf pd_17 rfl) rfl (W := 1) (Nat.le_of_eq rfl) (by decide) (by decide) (by decide) (by decide) ?_
          intro v20 T20 L20 X20 q20
          obtain ⟨rfl, Nq20, K20⟩ := q20
          have Sk20_0 := own_sta_keep ((((Sta_0.ext E14).wr W15).wr W16).ext E17) K20 (allS (own_ns_exa A17) all0)
          have Sk20_1 := own_sta_keep ((((Sta_2.ext E14).wr W15).wr W16).ext E17) K20 (allS (own_ns_exa A17) all0)
          have Sk20_2 := own_sta_keep ((((Sta_3.ext E14).wr W15).wr W16).ext E17) K20 (allS (own_ns_exa A17) all0)
          have Sk20_3 := own_sta_keep ((((Sta_5.ext E14).wr W15).wr W16).ext E17) K20 (allS (own_ns_exa A17) all0)
          have Sk20_4 := own_sta_keep ((((Sta_7.ext E14).wr W15).wr W16).ext E17) K20 (allS (own_ns_exa A17) all0)
          have N20 := Fr.app N16 Nq20
          show Go p e below s _ _ _ T20 (mkF m 103 #[.val (.int kn), .val (.int xv), .val (.long yv), .second, .val (.int c0), .val (.int c1), .val (.int ((kn &&& (2147483647 : Int32)) % (6 : Int32))), .unset, .unset, .val (.ref b14)] [(.ref b17)])
          refine wastore C X20 f0_103 #[.val (.int kn), .val (.int xv), .val (.long yv), .second, .val (.int c0), .val (.int c1), .val (.int ((kn &&& (2147483647 : Int32)) % (6 : Int32))), .val (.ref b17), .unset, .val (.ref b14)] rfl rfl ?_
          refine wldcC C X20 (tw_101 hw) Mir_10 rfl f0_105 ?_
          intro T21 X21 e21
          refine wastore C X21 f0_107 #[.val (.int kn), .val (.int xv), .val (.long yv), .second, .val (.int c0), .val (.int c1), .val (.int ((kn &&& (2147483647 : Int32)) % (6 : Int32))), .val (.ref b17), .val (.ref mS), .val (.ref b14)] rfl rfl ?_
          refine wgoto C X21 f0_109 ?_
          refine waload C X21 f0_166 rfl rfl ?_
          refine wstatic C X21 (y := (⟨"io/invocant/cli/Expression$Value", "of", "(Ljava/lang/Object;)Lio/invocant/cli/Expression$Value;"⟩ : MethodName)) (tw_1 hw) (tw_2 hw) (tw_3 hw) (tw_4 hw) (by decide) (rm1S l Z a0 hw [] b17 mS T20.heap n0 (Nat.le_trans (Nat.le_trans q18 E17.1) K20.1) (A17.keep K20) Mir_10) e21 f0_168 (argsL := [(.ref b17)]) (rest := []) rfl rfl (lenOf pd_12 rfl) rfl (W := 0) (Nat.le_of_eq rfl) (by decide) (by decide) (by decide) (by decide) ?_
          intro v22 T22 L22 X22 q22
          obtain ⟨b9_22, rfl, Nq22, K22, G22_0, G22_1, G22_2, G22_3⟩ := q22
          have Sk22_0 := own_sta_keep Sk20_0 K22 all0
          have Sk22_1 := own_sta_keep Sk20_1 K22 all0
          have Sk22_2 := own_sta_keep Sk20_2 K22 all0
          have Sk22_3 := own_sta_keep Sk20_3 K22 all0
          have Sk22_4 := own_sta_keep Sk20_4 K22 all0
          have szG22_0 : h0.size ≤ b9_22 := Nat.le_trans (Nat.le_trans (Nat.le_trans q19 E17.1) K20.1) G22_0
          have N22 := Fr.app N20 Nq22
          show Go p e below s _ _ _ T22 (mkF m 171 #[.val (.int kn), .val (.int xv), .val (.long yv), .second, .val (.int c0), .val (.int c1), .val (.int ((kn &&& (2147483647 : Int32)) % (6 : Int32))), .val (.ref b17), .val (.ref mS), .val (.ref b14)] [(.ref b9_22)])
          refine wastore C X22 f0_171 #[.val (.int kn), .val (.int xv), .val (.long yv), .second, .val (.int c0), .val (.int c1), .val (.int ((kn &&& (2147483647 : Int32)) % (6 : Int32))), .val (.ref b17), .val (.ref mS), .val (.ref b9_22)] rfl rfl ?_
          refine waload C X22 f0_173 rfl rfl ?_
          have q24 := (Nat.le_trans (Nat.le_trans (Nat.le_trans q18 E17.1) K20.1) K22.1)
          refine wvirtual C X22 (y := (⟨"io/invocant/cli/Expression$Value", "value", "()Ljava/lang/Object;"⟩ : MethodName)) (z := (⟨"io/invocant/cli/Expression$Value", "value", "()Ljava/lang/Object;"⟩ : MethodName)) (tw_22 hw) (tw_23 hw) (notFace_of_selects (args := #[]) (mvT C.2.1 (tw_25 hw))) (tw_25 hw) (tw_24 hw) (tw_26 hw) (tw_3 hw) (by decide) (rm5o l Z a0 hw [] b9_22 b17 T22.heap n0 q24 G22_3) rfl (a := b9_22) G22_1 f0_175 (argsL := []) (rest := []) rfl rfl (lenOf pd_13 rfl) rfl (W := 0) (Nat.le_of_eq rfl) (by decide) (by decide) (by decide) (by decide) ?_
          intro v23 T23 L23 X23 q23
          obtain ⟨rfl, Nq23, eq23⟩ := q23
          have N23 := Fr.app N22 Nq23
          show Go p e below s _ _ _ T23 (mkF m 178 #[.val (.int kn), .val (.int xv), .val (.long yv), .second, .val (.int c0), .val (.int c1), .val (.int ((kn &&& (2147483647 : Int32)) % (6 : Int32))), .val (.ref b17), .val (.ref mS), .val (.ref b9_22)] [(.ref b17)])
          refine waload C X23 f0_178 rfl rfl ?_
          refine wacmp_ne C X23 rfl rfl f0_180 ?_ (fun q => absurd rfl q)
          intro _
          refine waload C X23 f0_183 rfl rfl ?_
          refine wvirtual C X23 (y := (⟨"io/invocant/cli/Expression$Value", "type", "()Ljava/lang/Class;"⟩ : MethodName)) (z := (⟨"io/invocant/cli/Expression$Value", "type", "()Ljava/lang/Class;"⟩ : MethodName)) (tw_27 hw) (tw_28 hw) (notFace_of_selects (args := #[]) (mvT C.2.1 (tw_30 hw))) (tw_30 hw) (tw_29 hw) (tw_31 hw) (tw_3 hw) (by decide) (rm6o l Z a0 hw [] b9_22 mS T22.heap n0 q24 G22_2) eq23 (a := b9_22) G22_1 f0_185 (argsL := []) (rest := []) rfl rfl (lenOf pd_14 rfl) rfl (W := 0) (Nat.le_of_eq rfl) (by decide) (by decide) (by decide) (by decide) ?_
          intro v25 T25 L25 X25 q25
          obtain ⟨rfl, Nq25, eq25⟩ := q25
          have N25 := Fr.app N23 Nq25
          show Go p e below s _ _ _ T25 (mkF m 188 #[.val (.int kn), .val (.int xv), .val (.long yv), .second, .val (.int c0), .val (.int c1), .val (.int ((kn &&& (2147483647 : Int32)) % (6 : Int32))), .val (.ref b17), .val (.ref mS), .val (.ref b9_22)] [(.ref mS)])
          refine waload C X25 f0_188 rfl rfl ?_
          refine wacmp_ne C X25 rfl rfl f0_190 ?_ (fun q => absurd rfl q)
          intro _
          refine wiconst C X25 f0_193 (1 : Int32) rfl ?_
          refine wgoto C X25 f0_194 ?_
          refine wiretN C X25 (t := .boolean) (by simp) f0_198 rfl (1 : Int32) (by decide) (by decide) (by decide) ?_
          rw [eq25]
          exact ⟨rfl, N25⟩
        · refine wiload C X0 f0_112 rfl ?_
          refine wiconst C X0 f0_114 (4 : Int32) rfl ?_
          refine wicmp_ne C X0 f0_115 (fun hc115 => ?_) (fun hc115 => ?_)
          · refine wnew C X0 (tw_32 hw) (tw_33 hw) (tw_34 hw) e0 f0_118 (by decide) (by decide) ?_
            intro T26 h26 b26 g26 X26 e26 E26 A26 D26
            have sz26 : h0.size ≤ b26 := Nat.le_trans (Nat.le_refl h0.size) (Nat.le_of_eq g26.symm)
            have F26_modCount : Fld Z h26 b26 "java/util/AbstractList" "modCount" "I" (.int (0 : Int32)) := D26 (Or.inl (tw_52 hw)) (ty := .int) (by decide)
            have F26_elementData : Fld Z h26 b26 "java/util/ArrayList" "elementData" "[Ljava/lang/Object;" .null := D26 (Or.inl (tw_55 hw)) (ty := (.array (.object "java/lang/Object"))) (by decide)
            have F26_size : Fld Z h26 b26 "java/util/ArrayList" "size" "I" (.int (0 : Int32)) := D26 (Or.inl (tw_71 hw)) (ty := .int) (by decide)
            refine wdup C X26 f0_121 rfl ?_
            refine wspecial C X26 (y := (⟨"java/util/ArrayList", "<init>", "()V"⟩ : MethodName)) rfl (tw_35 hw) (tw_36 hw) (tw_37 hw) (tw_34 hw) rfl (by decide) (rm7 l Z a0 hw [] b26 de h26 n0 (Nat.le_trans Z0 E26.1) A26 F26_modCount F26_elementData F26_size (Sta_0.ext E26) (Nat.le_trans Z0 sz26)) e26 f0_122 (a := b26) (argsL := []) (rest := [(.ref b26)]) rfl rfl (lenOf pd_0 rfl) rfl (W := 1) (Nat.le_of_eq rfl) (by decide) (by decide) (by decide) (by decide) ?_
            intro v27 T27 L27 X27 q27
            obtain ⟨rfl, Nq27, K27, G27_0, G27_1, G27_2⟩ := q27
            have Sk27_0 := own_sta_keep (Sta_0.ext E26) K27 (allS (own_ns_exa A26) all0)
            have Sk27_1 := own_sta_keep (Sta_2.ext E26) K27 (allS (own_ns_exa A26) all0)
            have Sk27_2 := own_sta_keep (Sta_3.ext E26) K27 (allS (own_ns_exa A26) all0)
            have Sk27_3 := own_sta_keep (Sta_5.ext E26) K27 (allS (own_ns_exa A26) all0)
            have Sk27_4 := own_sta_keep (Sta_7.ext E26) K27 (allS (own_ns_exa A26) all0)
            have N27 := Fr.app N0 Nq27
            show Go p e below s _ _ _ T27 (mkF m 125 #[.val (.int kn), .val (.int xv), .val (.long yv), .second, .val (.int c0), .val (.int c1), .val (.int ((kn &&& (2147483647 : Int32)) % (6 : Int32))), .unset, .unset, .unset] [(.ref b26)])
            refine wastore C X27 f0_125 #[.val (.int kn), .val (.int xv), .val (.long yv), .second, .val (.int c0), .val (.int c1), .val (.int ((kn &&& (2147483647 : Int32)) % (6 : Int32))), .unset, .unset, .val (.ref b26)] rfl rfl ?_
            refine waload C X27 f0_127 rfl rfl ?_
            refine wiloadN C X27 f0_129 rfl ?_
            have ne29 : ci ≠ b26 := (Nat.ne_of_lt (Nat.lt_of_lt_of_le Cac_4.lt (Nat.le_of_eq g26.symm)))
            refine wstatic C X27 (y := (⟨"java/lang/Integer", "valueOf", "(I)Ljava/lang/Integer;"⟩ : MethodName)) (tw_56 hw) (tw_57 hw) (tw_58 hw) (tw_59 hw) (by decide) (rm10 l Z a0 hw [] xv ci T27.heap n0 (Nat.le_trans (Nat.le_trans Z0 E26.1) K27.1) Sk27_1 Sk27_2 ((Cac_4.ext E26).keep K27 (ninS ne29 nin0))) rfl f0_130 (argsL := [(.int xv)]) (rest := [(.ref b26)]) rfl rfl (lenOf pd_15 rfl) rfl (W := 1) (Nat.le_of_eq rfl) (by decide) (by decide) (by decide) (by decide) ?_
            intro v28 T28 L28 X28 q28
            obtain ⟨b9_28, rfl, Nq28, K28, G28_0⟩ := q28
            have q30 := (Nat.le_trans (Nat.le_trans (Nat.le_refl h0.size) E26.1) K27.1)
            have Sk28_0 := own_sta_keep Sk27_0 K28 all0
            have Sk28_1 := own_sta_keep Sk27_1 K28 all0
            have Sk28_2 := own_sta_keep Sk27_2 K28 all0
            have Sk28_3 := own_sta_keep Sk27_3 K28 all0
            have Sk28_4 := own_sta_keep Sk27_4 K28 all0
            have N28 := Fr.app N27 Nq28
            show Go p e below s _ _ _ T28 (mkF m 133 #[.val (.int kn), .val (.int xv), .val (.long yv), .second, .val (.int c0), .val (.int c1), .val (.int ((kn &&& (2147483647 : Int32)) % (6 : Int32))), .unset, .unset, .val (.ref b26)] [(.ref b9_28), (.ref b26)])
            have ne32 : de ≠ b26 := (Nat.ne_of_lt (Nat.lt_of_lt_of_le Arv_1.lt (Nat.le_of_eq g26.symm)))
            have q33 := (Nat.le_trans (Nat.le_trans (Nat.le_trans Z0 E26.1) K27.1) K28.1)
            refine wvirtual C X28 (y := (⟨"java/util/ArrayList", "add", "(Ljava/lang/Object;)Z"⟩ : MethodName)) (z := (⟨"java/util/ArrayList", "add", "(Ljava/lang/Object;)Z"⟩ : MethodName)) (tw_63 hw) (tw_64 hw) (notFace_of_selects (args := #[]) (mvT C.2.1 (tw_66 hw))) (tw_66 hw) (tw_65 hw) (tw_67 hw) (tw_34 hw) (by decide) (rm11 l Z a0 hw [] b26 b9_28 de kd T28.heap n0 q33 ((A26.keep K27).keep K28) (G27_0.keep K28 nin0) (G27_1.keep K28 nin0) (G27_2.keep K28 nin0) Sk28_0 (((Arv_1.ext E26).keep K27 (ninS ne32 nin0)).keep K28 nin0) (Nat.le_trans Z0 sz26) ne32 G28_0) rfl (a := b26) ((A26.keep K27).keep K28) f0_133 (argsL := [(.ref b9_28)]) (rest := []) rfl rfl (lenOf pd_18 rfl) rfl (W := 0) (Nat.le_of_eq rfl) (by decide) (by decide) (by decide) (by decide) ?_
            intro v31 T31 L31 X31 q31
            obtain ⟨rfl, Nq31, K31⟩ := q31
            have Sk31_0 := own_sta_keep Sk28_0 K31 (allS (own_ns_exa ((A26.keep K27).keep K28)) all0)
            have Sk31_1 := own_sta_keep Sk28_1 K31 (allS (own_ns_exa ((A26.keep K27).keep K28)) all0)
            have Sk31_2 := own_sta_keep Sk28_2 K31 (allS (own_ns_exa ((A26.keep K27).keep K28)) all0)
            have Sk31_3 := own_sta_keep Sk28_3 K31 (allS (own_ns_exa ((A26.keep K27).keep K28)) all0)
            have Sk31_4 := own_sta_keep Sk28_4 K31 (allS (own_ns_exa ((A26.keep K27).keep K28)) all0)
            have N31 := Fr.app N28 Nq31
            show Go p e below s _ _ _ T31 (mkF m 136 #[.val (.int kn), .val (.int xv), .val (.long yv), .second, .val (.int c0), .val (.int c1), .val (.int ((kn &&& (2147483647 : Int32)) % (6 : Int32))), .unset, .unset, .val (.ref b26)] [(.int (1 : Int32))])
            refine wpop C X31 f0_136 rfl ?_
            refine waload C X31 f0_137 rfl rfl ?_
            refine wastore C X31 f0_139 #[.val (.int kn), .val (.int xv), .val (.long yv), .second, .val (.int c0), .val (.int c1), .val (.int ((kn &&& (2147483647 : Int32)) % (6 : Int32))), .val (.ref b26), .unset, .val (.ref b26)] rfl rfl ?_
            refine wldcC C X31 (tw_32 hw) Mir_9 rfl f0_141 ?_
            intro T34 X34 e34
            refine wastore C X34 f0_143 #[.val (.int kn), .val (.int xv), .val (.long yv), .second, .val (.int c0), .val (.int c1), .val (.int ((kn &&& (2147483647 : Int32)) % (6 : Int32))), .val (.ref b26), .val (.ref mA), .val (.ref b26)] rfl rfl ?_
            refine wgoto C X34 f0_145 ?_
            refine waload C X34 f0_166 rfl rfl ?_
            refine wstatic C X34 (y := (⟨"io/invocant/cli/Expression$Value", "of", "(Ljava/lang/Object;)Lio/invocant/cli/Expression$Value;"⟩ : MethodName)) (tw_1 hw) (tw_2 hw) (tw_3 hw) (tw_4 hw) (by decide) (rm1A l Z a0 hw [] b26 mA T31.heap n0 (Nat.le_trans q33 K31.1) (((A26.keep K27).keep K28).keep K31) Mir_9) e34 f0_168 (argsL := [(.ref b26)]) (rest := []) rfl rfl (lenOf pd_12 rfl) rfl (W := 0) (Nat.le_of_eq rfl) (by decide) (by decide) (by decide) (by decide) ?_
            intro v35 T35 L35 X35 q35
            obtain ⟨b9_35, rfl, Nq35, K35, G35_0, G35_1, G35_2, G35_3⟩ := q35
            have Sk35_0 := own_sta_keep Sk31_0 K35 all0
            have Sk35_1 := own_sta_keep Sk31_1 K35 all0
            have Sk35_2 := own_sta_keep Sk31_2 K35 all0
            have Sk35_3 := own_sta_keep Sk31_3 K35 all0
            have Sk35_4 := own_sta_keep Sk31_4 K35 all0
            have szG35_0 : h0.size ≤ b9_35 := Nat.le_trans (Nat.le_trans (Nat.le_trans q30 K28.1) K31.1) G35_0
            have N35 := Fr.app N31 Nq35
            show Go p e below s _ _ _ T35 (mkF m 171 #[.val (.int kn), .val (.int xv), .val (.long yv), .second, .val (.int c0), .val (.int c1), .val (.int ((kn &&& (2147483647 : Int32)) % (6 : Int32))), .val (.ref b26), .val (.ref mA), .val (.ref b26)] [(.ref b9_35)])
            refine wastore C X35 f0_171 #[.val (.int kn), .val (.int xv), .val (.long yv), .second, .val (.int c0), .val (.int c1), .val (.int ((kn &&& (2147483647 : Int32)) % (6 : Int32))), .val (.ref b26), .val (.ref mA), .val (.ref b9_35)] rfl rfl ?_
            refine waload C X35 f0_173 rfl rfl ?_
            refine wvirtual C X35 (y := (⟨"io/invocant/cli/Expression$Value", "value", "()Ljava/lang/Object;"⟩ : MethodName)) (z := (⟨"io/invocant/cli/Expression$Value", "value", "()Ljava/lang/Object;"⟩ : MethodName)) (tw_22 hw) (tw_23 hw) (notFace_of_selects (args := #[]) (mvT C.2.1 (tw_25 hw))) (tw_25 hw) (tw_24 hw) (tw_26 hw) (tw_3 hw) (by decide) (rm5o l Z a0 hw [] b9_35 b26 T35.heap n0 (Nat.le_trans (Nat.le_trans q33 K31.1) K35.1) G35_3) rfl (a := b9_35) G35_1 f0_175 (argsL := []) (rest := []) rfl rfl (lenOf pd_13 rfl) rfl (W := 0) (Nat.le_of_eq rfl) (by decide) (by decide) (by decide) (by decide) ?_
            intro v36 T36 L36 X36 q36
            obtain ⟨rfl, Nq36, eq36⟩ := q36
            have N36 := Fr.app N35 Nq36
            show Go p e below s _ _ _ T36 (mkF m 178 #[.val (.int kn), .val (.int xv), .val (.long yv), .second, .val (.int c0), .val (.int c1), .val (.int ((kn &&& (2147483647 : Int32)) % (6 : Int32))), .val (.ref b26), .val (.ref mA), .val (.ref b9_35)] [(.ref b26)])
            refine waload C X36 f0_178 rfl rfl ?_
            refine wacmp_ne C X36 rfl rfl f0_180 ?_ (fun q => absurd rfl q)
            intro _
            refine waload C X36 f0_183 rfl rfl ?_
            refine wvirtual C X36 (y := (⟨"io/invocant/cli/Expression$Value", "type", "()Ljava/lang/Class;"⟩ : MethodName)) (z := (⟨"io/invocant/cli/Expression$Value", "type", "()Ljava/lang/Class;"⟩ : MethodName)) (tw_27 hw) (tw_28 hw) (notFace_of_selects (args := #[]) (mvT C.2.1 (tw_30 hw))) (tw_30 hw) (tw_29 hw) (tw_31 hw) (tw_3 hw) (by decide) (rm6o l Z a0 hw [] b9_35 mA T35.heap n0 (Nat.le_trans (Nat.le_trans q33 K31.1) K35.1) G35_2) eq36 (a := b9_35) G35_1 f0_185 (argsL := []) (rest := []) rfl rfl (lenOf pd_14 rfl) rfl (W := 0) (Nat.le_of_eq rfl) (by decide) (by decide) (by decide) (by decide) ?_
            intro v37 T37 L37 X37 q37
            obtain ⟨rfl, Nq37, eq37⟩ := q37
            have N37 := Fr.app N36 Nq37
            show Go p e below s _ _ _ T37 (mkF m 188 #[.val (.int kn), .val (.int xv), .val (.long yv), .second, .val (.int c0), .val (.int c1), .val (.int ((kn &&& (2147483647 : Int32)) % (6 : Int32))), .val (.ref b26), .val (.ref mA), .val (.ref b9_35)] [(.ref mA)])
            refine waload C X37 f0_188 rfl rfl ?_
            refine wacmp_ne C X37 rfl rfl f0_190 ?_ (fun q => absurd rfl q)
            intro _
            refine wiconst C X37 f0_193 (1 : Int32) rfl ?_
            refine wgoto C X37 f0_194 ?_
            refine wiretN C X37 (t := .boolean) (by simp) f0_198 rfl (1 : Int32) (by decide) (by decide) (by decide) ?_
            rw [eq37]
            exact ⟨rfl, N37⟩
          · refine wiconst C X0 f0_148 (1 : Int32) rfl ?_
            refine wnewarrE C X0 (aty := .int) (ad := "[I") (tw_154 hw) (by decide) e0 f0_149 (by decide) (cap := 1) (by decide) (by decide) (by decide) (by decide) ?_
            intro T38 h38 b38 k38 g38 X38 e38 E38 V38 Ea38
            have sz38 : h0.size ≤ b38 := Nat.le_trans (Nat.le_refl h0.size) (Nat.le_of_eq g38.symm)
            have Vp38 : Arv Z h38 b38 k38 .int (1 : Int32) [(.int (0 : Int32))] (.int (0 : Int32)) := Arv.pad V38 (pad_rep [] (.int (0 : Int32)) 1)
            refine wastore C X38 f0_151 #[.val (.int kn), .val (.int xv), .val (.long yv), .second, .val (.int c0), .val (.int c1), .val (.int ((kn &&& (2147483647 : Int32)) % (6 : Int32))), .unset, .unset, .val (.ref b38)] rfl rfl ?_
            refine waload C X38 f0_153 rfl rfl ?_
            refine wiconst C X38 f0_155 (0 : Int32) rfl ?_
            refine wiloadN C X38 f0_156 rfl ?_
            refine wiastore C X38 e38 Vp38 f0_157 ⟨by decide, by decide⟩ 0 rfl (show (0 : Nat) < 1 by decide) [(.int xv)] rfl ?_
            intro T39 h39 sl39 w39 X39 e39 W39 V39
            have N39 := Fr.snoc X39 N0 (Nat.le_trans Z0 sz38)
            refine waload C X39 f0_158 rfl rfl ?_
            refine wastore C X39 f0_160 #[.val (.int kn), .val (.int xv), .val (.long yv), .second, .val (.int c0), .val (.int c1), .val (.int ((kn &&& (2147483647 : Int32)) % (6 : Int32))), .val (.ref b38), .unset, .val (.ref b38)] rfl rfl ?_
            refine wldcC C X39 (tw_155 hw) Mir_13 e39 f0_162 ?_
            intro T40 X40 e40
            refine wastore C X40 f0_164 #[.val (.int kn), .val (.int xv), .val (.long yv), .second, .val (.int c0), .val (.int c1), .val (.int ((kn &&& (2147483647 : Int32)) % (6 : Int32))), .val (.ref b38), .val (.ref mB), .val (.ref b38)] rfl rfl ?_
            refine waload C X40 f0_166 rfl rfl ?_
            have q42 := (Nat.le_trans (Nat.le_trans Z0 E38.1) (Nat.le_of_eq W39.size.symm))
            refine wstatic C X40 (y := (⟨"io/invocant/cli/Expression$Value", "of", "(Ljava/lang/Object;)Lio/invocant/cli/Expression$Value;"⟩ : MethodName)) (tw_1 hw) (tw_2 hw) (tw_3 hw) (tw_4 hw) (by decide) (rm1B l Z a0 hw [] b38 mB h39 n0 q42 (Ea38.wr W39) Mir_13) e40 f0_168 (argsL := [(.ref b38)]) (rest := []) rfl rfl (lenOf pd_12 rfl) rfl (W := 0) (Nat.le_of_eq rfl) (by decide) (by decide) (by decide) (by decide) ?_
            intro v41 T41 L41 X41 q41
            obtain ⟨b9_41, rfl, Nq41, K41, G41_0, G41_1, G41_2, G41_3⟩ := q41
            have q43 := (Nat.le_trans (Nat.le_trans (Nat.le_refl h0.size) E38.1) (Nat.le_of_eq W39.size.symm))
            have Sk41_0 := own_sta_keep ((Sta_0.ext E38).wr W39) K41 all0
            have Sk41_1 := own_sta_keep ((Sta_2.ext E38).wr W39) K41 all0
            have Sk41_2 := own_sta_keep ((Sta_3.ext E38).wr W39) K41 all0
            have Sk41_3 := own_sta_keep ((Sta_5.ext E38).wr W39) K41 all0
            have Sk41_4 := own_sta_keep ((Sta_7.ext E38).wr W39) K41 all0
            have szG41_0 : h0.size ≤ b9_41 := Nat.le_trans q43 G41_0
            have N41 := Fr.app N39 Nq41
            show Go p e below s _ _ _ T41 (mkF m 171 #[.val (.int kn), .val (.int xv), .val (.long yv), .second, .val (.int c0), .val (.int c1), .val (.int ((kn &&& (2147483647 : Int32)) % (6 : Int32))), .val (.ref b38), .val (.ref mB), .val (.ref b38)] [(.ref b9_41)])
            refine wastore C X41 f0_171 #[.val (.int kn), .val (.int xv), .val (.long yv), .second, .val (.int c0), .val (.int c1), .val (.int ((kn &&& (2147483647 : Int32)) % (6 : Int32))), .val (.ref b38), .val (.ref mB), .val (.ref b9_41)] rfl rfl ?_
            refine waload C X41 f0_173 rfl rfl ?_
            refine wvirtual C X41 (y := (⟨"io/invocant/cli/Expression$Value", "value", "()Ljava/lang/Object;"⟩ : MethodName)) (z := (⟨"io/invocant/cli/Expression$Value", "value", "()Ljava/lang/Object;"⟩ : MethodName)) (tw_22 hw) (tw_23 hw) (notFace_of_selects (args := #[]) (mvT C.2.1 (tw_25 hw))) (tw_25 hw) (tw_24 hw) (tw_26 hw) (tw_3 hw) (by decide) (rm5o l Z a0 hw [] b9_41 b38 T41.heap n0 (Nat.le_trans q42 K41.1) G41_3) rfl (a := b9_41) G41_1 f0_175 (argsL := []) (rest := []) rfl rfl (lenOf pd_13 rfl) rfl (W := 0) (Nat.le_of_eq rfl) (by decide) (by decide) (by decide) (by decide) ?_
            intro v44 T44 L44 X44 q44
            obtain ⟨rfl, Nq44, eq44⟩ := q44
            have N44 := Fr.app N41 Nq44
            show Go p e below s _ _ _ T44 (mkF m 178 #[.val (.int kn), .val (.int xv), .val (.long yv), .second, .val (.int c0), .val (.int c1), .val (.int ((kn &&& (2147483647 : Int32)) % (6 : Int32))), .val (.ref b38), .val (.ref mB), .val (.ref b9_41)] [(.ref b38)])
            refine waload C X44 f0_178 rfl rfl ?_
            refine wacmp_ne C X44 rfl rfl f0_180 ?_ (fun q => absurd rfl q)
            intro _
            refine waload C X44 f0_183 rfl rfl ?_
            refine wvirtual C X44 (y := (⟨"io/invocant/cli/Expression$Value", "type", "()Ljava/lang/Class;"⟩ : MethodName)) (z := (⟨"io/invocant/cli/Expression$Value", "type", "()Ljava/lang/Class;"⟩ : MethodName)) (tw_27 hw) (tw_28 hw) (notFace_of_selects (args := #[]) (mvT C.2.1 (tw_30 hw))) (tw_30 hw) (tw_29 hw) (tw_31 hw) (tw_3 hw) (by decide) (rm6o l Z a0 hw [] b9_41 mB T41.heap n0 (Nat.le_trans q42 K41.1) G41_2) eq44 (a := b9_41) G41_1 f0_185 (argsL := []) (rest := []) rfl rfl (lenOf pd_14 rfl) rfl (W := 0) (Nat.le_of_eq rfl) (by decide) (by decide) (by decide) (by decide) ?_
            intro v45 T45 L45 X45 q45
            obtain ⟨rfl, Nq45, eq45⟩ := q45
            have N45 := Fr.app N44 Nq45
            show Go p e below s _ _ _ T45 (mkF m 188 #[.val (.int kn), .val (.int xv), .val (.long yv), .second, .val (.int c0), .val (.int c1), .val (.int ((kn &&& (2147483647 : Int32)) % (6 : Int32))), .val (.ref b38), .val (.ref mB), .val (.ref b9_41)] [(.ref mB)])
            refine waload C X45 f0_188 rfl rfl ?_
            refine wacmp_ne C X45 rfl rfl f0_190 ?_ (fun q => absurd rfl q)
            intro _
            refine wiconst C X45 f0_193 (1 : Int32) rfl ?_
            refine wgoto C X45 f0_194 ?_
            refine wiretN C X45 (t := .boolean) (by simp) f0_198 rfl (1 : Int32) (by decide) (by decide) (by decide) ?_
            rw [eq45]
            exact ⟨rfl, N45⟩
set_option maxRecDepth 65536 in
set_option maxHeartbeats 40000000 in
theorem comes_1 {Post : Tables → Env → Array Value → State → Outcome → State → Prop} (hpost : ∀ tb e args s v u, (limb_1_1.after args s (.returned v) u = true ∧ limb_1_2.after args s (.returned v) u = true ∧ True) → FrameEnd s (.returned v) u (Jvm.fieldLocs frame_1_writes args s ++ Jvm.arrayLocs frame_1_arrays args s ++ Jvm.staticLocs frame_1_statics s) 16 128 → Post tb e args s (.returned v) u) :
    ArmFor flags0 classFile x code maxLocals ret World_1 tables_1 room_1 Calls_1 rest_1 Pre_1 Post := by
  intro l hfl _ _ p e ha hc hk s m args below hf hA hF happ hP
  obtain ⟨hcalls, hrest, hpre⟩ := hP
  obtain ⟨-, -, -, hnamed, -, -, -, hat⟩ := (Spec.applies_iff hf).mp happ
  obtain ⟨hg, hn⟩ := and_e (Cond.before_iff.mp (show (Jvm.Cond.and given_1 narrow_1).before args s = true from hpre))
  obtain ⟨hg0, hr0⟩ := and_e hg
  obtain ⟨hg1, hr1⟩ := and_e hr0
  obtain ⟨hg2, hr2⟩ := and_e hr1
  obtain ⟨hg3, hr3⟩ := and_e hr2
  obtain ⟨hg4, hr4⟩ := and_e hr3
  obtain ⟨w0, w1, w2, w3, w4, rfl⟩ : ∃ w0 w1 w2 w3 w4 : Value, args = #[w0, w1, w2, w3, w4] := by
    have hs : args.size = 5 := by simpa [Cond.value, given_1] using hg0
    obtain ⟨L⟩ := args
    match L, hs with
    | [w0, w1, w2, w3, w4], _ => exact ⟨w0, w1, w2, w3, w4, rfl⟩
  have hw := fun d (hd : d ∈ tables_1) => atoms_spec (ws := Jvm.Cond.code x code maxLocals ret :: tables_1) hat d (List.mem_cons_of_mem _ hd)
  have hfit : Fit s := fun {y c} hc i hi => by
    obtain ⟨ha, rfl⟩ := Array.getElem?_eq_some_iff.mp hc
    have q := List.all_eq_true.mp ((Array.all_eq_true_iff_forall_mem.mp hF) _ (Array.getElem_mem ha)) i (List.mem_range.mpr hi)
    simpa [Array.getElem?_eq_getElem hi] using q
  obtain ⟨hsets, hown0⟩ := atoms_of _ (rest_1_c_eq ▸ (show rest_1_c.before _ s = true from hrest))
  have hr0 := Cond.before_iff.mp hown0
  obtain ⟨i0, ei0⟩ := is_v hg1
  obtain rfl : w0 = (.int i0) := Option.some.inj ei0
  obtain ⟨i1, ei1⟩ := is_v hg2
  obtain rfl : w1 = (.int i1) := Option.some.inj ei1
  obtain ⟨i2, ei2⟩ := isL_v hg3
  obtain rfl : w2 = (.long i2) := Option.some.inj ei2
  obtain ⟨i3, ei3⟩ := is_v hg4
  obtain rfl : w3 = (.int i3) := Option.some.inj ei3
  obtain ⟨i4, ei4⟩ := is_v hr4
  obtain rfl : w4 = (.int i4) := Option.some.inj ei4
  obtain ⟨de, kd, ede, Vde⟩ := own_emp hfit (hsets _ (List.mem_of_getElem? (i := 6) rfl)) (hsets _ (List.mem_of_getElem? (i := 8) rfl))
  obtain ⟨ci, eci, Vci⟩ := own_cac (hsets _ (List.mem_of_getElem? (i := 13) rfl)) (hsets _ (List.mem_of_getElem? (i := 15) rfl)) (fun _ _ q => q) (hsets _ (List.mem_of_getElem? (i := 16) rfl))
  obtain ⟨cj, ecj, Vcj⟩ := own_cac (hsets _ (List.mem_of_getElem? (i := 28) rfl)) (hsets _ (List.mem_of_getElem? (i := 30) rfl)) (fun _ _ q => q) (hsets _ (List.mem_of_getElem? (i := 31) rfl))
  have ehi := own_eqi (Cond.before_iff.mp (hsets _ (List.mem_of_getElem? (i := 12) rfl)))
  obtain ⟨cs, ecs⟩ := is_v (Cond.before_iff.mp (hsets _ (List.mem_of_getElem? (i := 18) rfl)))
  have hcs : ¬ cs = (0 : Int32) := fun q => by
    have u := Cond.before_iff.mp (hsets _ (List.mem_of_getElem? (i := 19) rfl))
    simp only [Jvm.Cond.value, ecs] at u
    simp [Jvm.Term.eval, q] at u
  obtain ⟨M1, M2, M3, M4, M5, -⟩ := hcalls
  obtain ⟨cA, kA, mA, M1⟩ := M1
  obtain ⟨cB, kB, mB, M2⟩ := M2
  obtain ⟨cC, kC, mC, M3⟩ := M3
  obtain ⟨cD, kD, mD, M4⟩ := M4
  obtain ⟨cE, kE, mE, M5⟩ := M5
  obtain ⟨n, o, h1, h2, h3, _, L, rfl, ⟨rfl, N⟩, hq⟩ := rm0 l s _ hw tables_1 i0 i1 i2 i3 i4 de kd ci cj cs mA mB mC mD mE s.heap s.heap.size (Nat.le_refl _) (Sta.start ede (Or.inr ⟨(tw_34 hw), (hsets _ (List.mem_of_getElem? (i := 2) rfl))⟩)) Vde (Sta.start ehi (Or.inr ⟨(tw_61 hw), (hsets _ (List.mem_of_getElem? (i := 9) rfl))⟩)) (Sta.start eci (Or.inr ⟨(tw_61 hw), (hsets _ (List.mem_of_getElem? (i := 11) rfl))⟩)) Vci (Sta.start ecj (Or.inr ⟨(tw_169 hw), (hsets _ (List.mem_of_getElem? (i := 26) rfl))⟩)) Vcj (Sta.start ecs (Or.inl (hsets _ (List.mem_of_getElem? (i := 17) rfl)))) hcs ⟨_, _, M1.1, M1.2.1, M1.2.2.1⟩ ⟨_, _, M2.1, M2.2.1, M2.2.2.1⟩ ⟨_, _, M3.1, M3.2.1, M3.2.2.1⟩ ⟨_, _, M4.1, M4.2.1, M4.2.2.1⟩ ⟨_, _, M5.1, M5.2.1, M5.2.2.1⟩ p e ha hc hk s m _ below hf ((Spec.applies_iff_loose hf).mp happ).1 ⟨rfl, State.Warmed39.refl s, rfl⟩ trivial
  refine ⟨n, _, h1, h2, h3, hpost _ _ _ _ _ _ ⟨Cond.after_iff.mpr rfl, Cond.after_iff.mpr (eq_i res_at (Term.int_eval (1)) rfl), trivial⟩ ⟨hq.1, hq.2.1, (hq.2.2.sift fun y hy => Or.inr (N y hy)).mono (by decide) (by decide)⟩⟩
theorem main_1_1 : Claimed_1_1 := comes_1 fun _ _ _ _ _ _ h hF => ⟨h.1, hF⟩
theorem main_1_2 : Claimed_1_2 := comes_1 fun _ _ _ _ _ _ h hF => ⟨h.2.1, hF⟩
end Jvm.Pilot.@@N@@
-- WITNESS
namespace Jvm.Pilot.@@N@@
open Jvm Jvm.ClassFile Sem Op Lib Jvm.Free Jvm.Stand Jvm.Pilot.@@N@@.Jvm.D
/-! MADE BY PROGRAM (witnessworld.py) out of the Statement's table words and the real class files: 39 classes; the members and pool entries that the words name. The judged class is class 1, her method 1. -/
namespace start1
open Jvm.ClassFile
def u (s : String) : CpInfo := .utf8 (stringToUtf16 s)
/-- a pool by its gaps: so many unusable entries, then the entry; so many at the end -/
def gap : Nat → List CpInfo → List CpInfo
  | 0, r => r
  | n + 1, r => .unusable :: gap n r
def poolList (es : List (Nat × CpInfo)) (last : Nat) : List CpInfo := es.foldr (fun e r => gap e.1 (e.2 :: r)) (gap last [])
def pool (es : List (Nat × CpInfo)) (last : Nat) : Array CpInfo := ⟨poolList es last⟩
def fileOf (pool : Array CpInfo) (this : Nat) (attrs : Array Attribute := #[]) (ms : Array MethodInfo := #[]) (fl : Nat := 33) (sup : Nat := 0) (ifs : Array Nat := #[]) (fds : Array FieldInfo := #[]) : ClassFile where
  minorVersion := 0
  majorVersion := 65
  constantPool := pool
  accessFlags := fl
  thisClass := this
  superClass := sup
  interfaces := ifs
  fields := fds
  methods := ms
  attributes := attrs
def plain (name : String) (sup : Option ClassId) : Class where
  name := name
  kind := .ordinary
  loader := none
  accessFlags := 33
  super := sup
  interfaces := #[]
  cf := none
  fields := #[]
  methods := #[]
  instanceTypes := #[]
  staticTypes := #[]
  resolved := #[]
  callSites := []
  init := .initialized
  statics := none
  mirror := none

def pool0 : Array CpInfo := pool [(5, u "<init>"), (0, u "()V"), (1, .class_ 10), (1, u "java/lang/Object"), (0, u "getClass"), (0, u "()Ljava/lang/Class;")] 111

def k0c0 : Code := { maxStack := 0, maxLocals := 1, code := object_method_1_code, exceptionTable := #[], attributes := #[] }
def k0m0 : Method := { name := "<init>", desc := "()V", sig := { parameters := [], returnType := none }, accessFlags := 1, code := some k0c0 }
def k0m1 : Method := { name := "getClass", desc := "()Ljava/lang/Class;", sig := { parameters := [], returnType := some (.object "java/lang/Class") }, accessFlags := 273, code := none }
/-- java/lang/Object -/
def k0 : Class := { plain "java/lang/Object" none with
  accessFlags := 33
  interfaces := #[]
  cf := some (fileOf pool0 8 #[] #[{ accessFlags := 1, nameIndex := 5, descriptorIndex := 6, attributes := #[] }, { accessFlags := 273, nameIndex := 11, descriptorIndex := 12, attributes := #[] }] 33 0 #[] #[])
  fields := #[]
  methods := #[k0m0, k0m1]
  instanceTypes := #[]
  staticTypes := #[]
  resolved := Array.replicate 124 none
  statics := none }

def pool1 : Array CpInfo := pool [(2, .class_ 4), (0, .nameAndType 5 6), (0, u "java/lang/Object"), (0, u "<init>"), (0, u "()V"), (0, .integer 2147483647), (0, .methodref 9 10), (0, .class_ 11), (0, .nameAndType 12 13), (0, u "java/lang/Integer"), (0, u "valueOf"), (0, u "(I)Ljava/lang/Integer;"), (0, .methodref 15 16), (0, .class_ 17), (0, .nameAndType 12 18), (0, u "java/lang/Long"), (0, u "(J)Ljava/lang/Long;"), (0, .class_ 20), (0, u "java/lang/String"), (0, .methodref 19 22), (0, .nameAndType 5 23), (0, u "([C)V"), (0, .class_ 25), (0, u "java/util/ArrayList"), (0, .methodref 24 3), (0, .methodref 24 28), (0, .nameAndType 29 30), (0, u "add"), (0, u "(Ljava/lang/Object;)Z"), (0, .class_ 32), (0, u "[I"), (0, .methodref 34 35), (0, .class_ 36), (0, .nameAndType 37 38), (0, u "io/invocant/cli/Expression$Value"), (0, u "of"), (0, u "(Ljava/lang/Object;)Lio/invocant/cli/Expression$Value;"), (0, .methodref 34 40), (0, .nameAndType 41 42), (0, u "value"), (0, u "()Ljava/lang/Object;"), (0, .methodref 34 44), (0, .nameAndType 45 46), (0, u "type"), (0, u "()Ljava/lang/Class;"), (0, .class_ 48), (0, u "io/invocant/cli/ValueOfPinLaw"), (2, u "law"), (0, u "(IIJII)Z")] 9

def k1m0 : Method := { name := "<init>", desc := "()V", sig := { parameters := [], returnType := none }, accessFlags := 1, code := none }
def k1c1 : Code := { maxStack := 4, maxLocals := 10, code := code, exceptionTable := #[], attributes := #[] }
def k1m1 : Method := { name := "law", desc := "(IIJII)Z", sig := { parameters := [.int, .int, .long, .int, .int], returnType := some .boolean }, accessFlags := 9, code := some k1c1 }
/-- io/invocant/cli/ValueOfPinLaw -/
def k1 : Class := { plain "io/invocant/cli/ValueOfPinLaw" (some 0) with
  accessFlags := 49
  interfaces := #[]
  cf := some (fileOf pool1 47 #[] #[{ accessFlags := 1, nameIndex := 5, descriptorIndex := 6, attributes := #[] }, { accessFlags := 9, nameIndex := 51, descriptorIndex := 52, attributes := #[] }] 49 2 #[] #[])
  fields := #[]
  methods := #[k1m0, k1m1]
  instanceTypes := #[]
  staticTypes := #[]
  resolved := Array.replicate 62 none
  statics := none }

def pool2 : Array CpInfo := pool [(1, .methodref 2 3), (0, .class_ 4), (0, .nameAndType 5 6), (0, u "java/lang/Object"), (0, u "<init>"), (0, u "()V"), (0, .class_ 8), (0, u "java/lang/Record")] 13

def k2c0 : Code := { maxStack := 1, maxLocals := 1, code := jdk_30_method_1_code, exceptionTable := #[], attributes := #[] }
def k2m0 : Method := { name := "<init>", desc := "()V", sig := { parameters := [], returnType := none }, accessFlags := 4, code := some k2c0 }
/-- java/lang/Record -/
def k2 : Class := { plain "java/lang/Record" (some 0) with
  accessFlags := 1057
  interfaces := #[]
  cf := some (fileOf pool2 7 #[] #[{ accessFlags := 4, nameIndex := 5, descriptorIndex := 6, attributes := #[] }] 1057 2 #[] #[])
  fields := #[]
  methods := #[k2m0]
  instanceTypes := #[]
  staticTypes := #[]
  resolved := Array.replicate 22 none
  statics := none }

def pool3 : Array CpInfo := pool [(1, .methodref 2 3), (0, .class_ 4), (0, .nameAndType 5 6), (0, u "java/lang/Record"), (0, u "<init>"), (0, u "()V"), (0, .fieldref 8 9), (0, .class_ 10), (0, .nameAndType 11 12), (0, u "io/invocant/cli/Expression$Value"), (0, u "type"), (0, u "Ljava/lang/Class;"), (0, .fieldref 8 14), (0, .nameAndType 15 16), (0, u "value"), (0, u "Ljava/lang/Object;"), (0, .methodref 18 19), (0, .class_ 20), (0, .nameAndType 21 22), (0, u "java/lang/Object"), (0, u "getClass"), (0, u "()Ljava/lang/Class;"), (0, .methodref 8 24), (0, .nameAndType 5 25), (0, u "(Ljava/lang/Class;Ljava/lang/Object;)V"), (24, u "of"), (0, u "(Ljava/lang/Object;)Lio/invocant/cli/Expression$Value;"), (4, u "()Ljava/lang/Object;"), (7, .class_ 65), (0, u "io/invocant/cli/Expression")] 20

def k3c0 : Code := { maxStack := 2, maxLocals := 3, code := prog_16_method_1_code, exceptionTable := #[], attributes := #[] }
def k3m0 : Method := { name := "<init>", desc := "(Ljava/lang/Class;Ljava/lang/Object;)V", sig := { parameters := [(.object "java/lang/Class"), (.object "java/lang/Object")], returnType := none }, accessFlags := 0, code := some k3c0 }
def k3c1 : Code := { maxStack := 4, maxLocals := 1, code := prog_16_method_2_code, exceptionTable := #[], attributes := #[] }
def k3m1 : Method := { name := "of", desc := "(Ljava/lang/Object;)Lio/invocant/cli/Expression$Value;", sig := { parameters := [(.object "java/lang/Object")], returnType := some (.object "io/invocant/cli/Expression$Value") }, accessFlags := 8, code := some k3c1 }
def k3c2 : Code := { maxStack := 1, maxLocals := 1, code := prog_16_method_7_code, exceptionTable := #[], attributes := #[] }
def k3m2 : Method := { name := "type", desc := "()Ljava/lang/Class;", sig := { parameters := [], returnType := some (.object "java/lang/Class") }, accessFlags := 1, code := some k3c2 }
def k3c3 : Code := { maxStack := 1, maxLocals := 1, code := prog_16_method_8_code, exceptionTable := #[], attributes := #[] }
def k3m3 : Method := { name := "value", desc := "()Ljava/lang/Object;", sig := { parameters := [], returnType := some (.object "java/lang/Object") }, accessFlags := 1, code := some k3c3 }
/-- io/invocant/cli/Expression$Value -/
def k3 : Class := { plain "io/invocant/cli/Expression$Value" (some 2) with
  accessFlags := 48
  interfaces := #[]
  cf := some (fileOf pool3 8 #[.nestHost 64] #[{ accessFlags := 0, nameIndex := 5, descriptorIndex := 25, attributes := #[] }, { accessFlags := 8, nameIndex := 50, descriptorIndex := 51, attributes := #[] }, { accessFlags := 1, nameIndex := 11, descriptorIndex := 22, attributes := #[] }, { accessFlags := 1, nameIndex := 15, descriptorIndex := 56, attributes := #[] }] 48 2 #[] #[{ accessFlags := 18, nameIndex := 11, descriptorIndex := 12, attributes := #[] }, { accessFlags := 18, nameIndex := 15, descriptorIndex := 16, attributes := #[] }])
  fields := #[{ name := "type", type := (.object "java/lang/Class"), accessFlags := 18, slot := 0, constantValue := 0 }, { name := "value", type := (.object "java/lang/Object"), accessFlags := 18, slot := 1, constantValue := 0 }]
  methods := #[k3m0, k3m1, k3m2, k3m3]
  instanceTypes := #[(.object "java/lang/Class"), (.object "java/lang/Object")]
  staticTypes := #[]
  resolved := Array.replicate 86 none
  statics := none }

def pool4 : Array CpInfo := pool [(8, .class_ 10), (1, u "java/lang/Iterable"), (24, .class_ 36), (0, u "java/lang/Object")] 25

/-- java/lang/Iterable -/
def k4 : Class := { plain "java/lang/Iterable" (some 0) with
  accessFlags := 1537
  interfaces := #[]
  cf := some (fileOf pool4 8 #[] #[] 1537 35 #[] #[])
  fields := #[]
  methods := #[]
  instanceTypes := #[]
  staticTypes := #[]
  resolved := Array.replicate 62 none
  statics := none }

def pool5 : Array CpInfo := pool [(10, .class_ 12), (1, u "java/util/Collection"), (47, .class_ 61), (0, u "java/lang/Object"), (0, .class_ 63), (0, u "java/lang/Iterable")] 51

/-- java/util/Collection -/
def k5 : Class := { plain "java/util/Collection" (some 0) with
  accessFlags := 1537
  interfaces := #[4]
  cf := some (fileOf pool5 10 #[] #[] 1537 60 #[62] #[])
  fields := #[]
  methods := #[]
  instanceTypes := #[]
  staticTypes := #[]
  resolved := Array.replicate 115 none
  statics := none }

def pool6 : Array CpInfo := pool [(1, .methodref 2 3), (0, .class_ 4), (0, .nameAndType 5 6), (0, u "java/lang/Object"), (0, u "<init>"), (0, u "()V"), (1, .class_ 10), (1, u "java/util/AbstractCollection"), (66, .class_ 78), (0, u "java/util/Collection")] 81

def k6c0 : Code := { maxStack := 1, maxLocals := 1, code := jdk_22_method_1_code, exceptionTable := #[], attributes := #[] }
def k6m0 : Method := { name := "<init>", desc := "()V", sig := { parameters := [], returnType := none }, accessFlags := 4, code := some k6c0 }
/-- java/util/AbstractCollection -/
def k6 : Class := { plain "java/util/AbstractCollection" (some 0) with
  accessFlags := 1057
  interfaces := #[5]
  cf := some (fileOf pool6 8 #[] #[{ accessFlags := 4, nameIndex := 5, descriptorIndex := 6, attributes := #[] }] 1057 2 #[77] #[])
  fields := #[]
  methods := #[k6m0]
  instanceTypes := #[]
  staticTypes := #[]
  resolved := Array.replicate 160 none
  statics := none }

def pool7 : Array CpInfo := pool [(8, .class_ 10), (1, u "java/util/SequencedCollection"), (15, .class_ 27), (0, u "java/lang/Object"), (0, .class_ 29), (0, u "java/util/Collection")] 27

/-- java/util/SequencedCollection -/
def k7 : Class := { plain "java/util/SequencedCollection" (some 0) with
  accessFlags := 1537
  interfaces := #[5]
  cf := some (fileOf pool7 8 #[] #[] 1537 26 #[28] #[])
  fields := #[]
  methods := #[]
  instanceTypes := #[]
  staticTypes := #[]
  resolved := Array.replicate 57 none
  statics := none }

def pool8 : Array CpInfo := pool [(8, .class_ 10), (1, u "java/util/List"), (92, .class_ 104), (0, u "java/lang/Object"), (15, .class_ 121), (0, u "java/util/SequencedCollection")] 129

/-- java/util/List -/
def k8 : Class := { plain "java/util/List" (some 0) with
  accessFlags := 1537
  interfaces := #[7]
  cf := some (fileOf pool8 8 #[] #[] 1537 103 #[120] #[])
  fields := #[]
  methods := #[]
  instanceTypes := #[]
  staticTypes := #[]
  resolved := Array.replicate 251 none
  statics := none }

def pool9 : Array CpInfo := pool [(1, .methodref 2 3), (0, .class_ 4), (0, .nameAndType 5 6), (0, u "java/util/AbstractCollection"), (0, u "<init>"), (0, u "()V"), (0, .fieldref 8 9), (0, .class_ 10), (0, .nameAndType 11 12), (0, u "java/util/AbstractList"), (0, u "modCount"), (0, u "I"), (64, .class_ 78), (0, u "java/util/AbstractList$Itr"), (3, .class_ 83), (0, u "java/util/AbstractList$ListItr"), (9, .class_ 94), (0, u "java/util/AbstractList$RandomAccessSubList"), (3, .class_ 99), (0, u "java/util/AbstractList$SubList"), (33, .class_ 134), (0, u "java/util/List"), (73, .class_ 209), (0, u "java/util/AbstractList$SubList$1"), (0, .class_ 211), (0, u "java/util/AbstractList$RandomAccessSpliterator")] 6

def k9c0 : Code := { maxStack := 2, maxLocals := 1, code := jdk_39_method_1_code, exceptionTable := #[], attributes := #[] }
def k9m0 : Method := { name := "<init>", desc := "()V", sig := { parameters := [], returnType := none }, accessFlags := 4, code := some k9c0 }
/-- java/util/AbstractList -/
def k9 : Class := { plain "java/util/AbstractList" (some 6) with
  accessFlags := 1057
  interfaces := #[8]
  cf := some (fileOf pool9 8 #[.nestMembers #[93, 98, 208, 210, 82, 77]] #[{ accessFlags := 4, nameIndex := 5, descriptorIndex := 6, attributes := #[] }] 1057 2 #[133] #[{ accessFlags := 132, nameIndex := 11, descriptorIndex := 12, attributes := #[] }])
  fields := #[{ name := "modCount", type := .int, accessFlags := 132, slot := 0, constantValue := 0 }]
  methods := #[k9m0]
  instanceTypes := #[.int]
  staticTypes := #[]
  resolved := Array.replicate 218 none
  statics := none }

def pool10 : Array CpInfo := pool [(1, .class_ 2), (0, u "java/util/RandomAccess"), (0, .class_ 4), (0, u "java/lang/Object")] 2

/-- java/util/RandomAccess -/
def k10 : Class := { plain "java/util/RandomAccess" (some 0) with
  accessFlags := 1537
  interfaces := #[]
  cf := some (fileOf pool10 1 #[] #[] 1537 3 #[] #[])
  fields := #[]
  methods := #[]
  instanceTypes := #[]
  staticTypes := #[]
  resolved := Array.replicate 7 none
  statics := none }

def pool11 : Array CpInfo := pool [(1, .class_ 2), (0, u "java/lang/Cloneable"), (0, .class_ 4), (0, u "java/lang/Object")] 2

/-- java/lang/Cloneable -/
def k11 : Class := { plain "java/lang/Cloneable" (some 0) with
  accessFlags := 1537
  interfaces := #[]
  cf := some (fileOf pool11 1 #[] #[] 1537 3 #[] #[])
  fields := #[]
  methods := #[]
  instanceTypes := #[]
  staticTypes := #[]
  resolved := Array.replicate 7 none
  statics := none }

def pool12 : Array CpInfo := pool [(1, .class_ 2), (0, u "java/io/Serializable"), (0, .class_ 4), (0, u "java/lang/Object")] 2

/-- java/io/Serializable -/
def k12 : Class := { plain "java/io/Serializable" (some 0) with
  accessFlags := 1537
  interfaces := #[]
  cf := some (fileOf pool12 1 #[] #[] 1537 3 #[] #[])
  fields := #[]
  methods := #[]
  instanceTypes := #[]
  staticTypes := #[]
  resolved := Array.replicate 7 none
  statics := none }

def pool13 : Array CpInfo := pool [(1, .methodref 2 3), (0, .class_ 4), (0, .nameAndType 5 6), (0, u "java/util/AbstractList"), (0, u "<init>"), (0, u "()V"), (0, .class_ 8), (0, u "java/lang/Object"), (0, .fieldref 10 11), (0, .class_ 12), (0, .nameAndType 13 14), (0, u "java/util/ArrayList"), (0, u "elementData"), (0, u "[Ljava/lang/Object;"), (2, u "EMPTY_ELEMENTDATA"), (21, .fieldref 10 40), (0, .nameAndType 41 14), (0, u "DEFAULTCAPACITY_EMPTY_ELEMENTDATA"), (5, u "()[Ljava/lang/Object;"), (0, .fieldref 10 49), (0, .nameAndType 50 51), (0, u "size"), (0, u "I"), (11, .fieldref 10 64), (0, .nameAndType 65 51), (0, u "modCount"), (3, .methodref 10 70), (0, .nameAndType 71 72), (0, u "grow"), (0, u "(I)[Ljava/lang/Object;"), (6, .methodref 80 81), (0, .class_ 82), (0, .nameAndType 83 84), (0, u "java/lang/Math"), (0, u "max"), (0, u "(II)I"), (11, u "(Ljava/lang/Object;)Z"), (32, .methodref 10 130), (0, .nameAndType 71 47), (0, .methodref 10 132), (0, .nameAndType 133 134), (0, u "add"), (0, u "(Ljava/lang/Object;[Ljava/lang/Object;I)V"), (13, .class_ 149), (0, u "java/util/List"), (112, .class_ 263), (0, u "java/util/ArrayList$ListItr"), (3, .class_ 268), (0, u "java/util/ArrayList$Itr"), (7, .class_ 277), (0, u "java/util/ArrayList$SubList"), (12, .class_ 291), (0, u "java/util/ArrayList$ArrayListSpliterator"), (37, .class_ 330), (0, u "java/util/RandomAccess"), (0, .class_ 332), (0, u "java/lang/Cloneable"), (0, .class_ 334), (0, u "java/io/Serializable"), (0, u "serialVersionUID"), (0, u "J"), (3, u "DEFAULT_CAPACITY"), (159, .class_ 501), (0, u "java/util/ArrayList$SubList$2"), (0, .class_ 503), (0, u "java/util/ArrayList$SubList$1")] 5

def k13c0 : Code := { maxStack := 2, maxLocals := 1, code := jdk_38_method_2_code, exceptionTable := #[], attributes := #[] }
def k13m0 : Method := { name := "<init>", desc := "()V", sig := { parameters := [], returnType := none }, accessFlags := 1, code := some k13c0 }
def k13c1 : Code := { maxStack := 4, maxLocals := 4, code := jdk_38_method_6_code, exceptionTable := #[], attributes := #[] }
def k13m1 : Method := { name := "grow", desc := "(I)[Ljava/lang/Object;", sig := { parameters := [.int], returnType := some (.array (.object "java/lang/Object")) }, accessFlags := 2, code := some k13c1 }
def k13c2 : Code := { maxStack := 3, maxLocals := 1, code := jdk_38_method_7_code, exceptionTable := #[], attributes := #[] }
def k13m2 : Method := { name := "grow", desc := "()[Ljava/lang/Object;", sig := { parameters := [], returnType := some (.array (.object "java/lang/Object")) }, accessFlags := 2, code := some k13c2 }
def k13c3 : Code := { maxStack := 3, maxLocals := 4, code := jdk_38_method_24_code, exceptionTable := #[], attributes := #[] }
def k13m3 : Method := { name := "add", desc := "(Ljava/lang/Object;[Ljava/lang/Object;I)V", sig := { parameters := [(.object "java/lang/Object"), (.array (.object "java/lang/Object")), .int], returnType := none }, accessFlags := 2, code := some k13c3 }
def k13c4 : Code := { maxStack := 4, maxLocals := 2, code := jdk_38_method_25_code, exceptionTable := #[], attributes := #[] }
def k13m4 : Method := { name := "add", desc := "(Ljava/lang/Object;)Z", sig := { parameters := [(.object "java/lang/Object")], returnType := some .boolean }, accessFlags := 1, code := some k13c4 }
/-- java/util/ArrayList -/
def k13 : Class := { plain "java/util/ArrayList" (some 9) with
  accessFlags := 33
  interfaces := #[8, 10, 11, 12]
  cf := some (fileOf pool13 10 #[.nestMembers #[290, 276, 500, 502, 262, 267]] #[{ accessFlags := 1, nameIndex := 5, descriptorIndex := 6, attributes := #[] }, { accessFlags := 2, nameIndex := 71, descriptorIndex := 72, attributes := #[] }, { accessFlags := 2, nameIndex := 71, descriptorIndex := 47, attributes := #[] }, { accessFlags := 2, nameIndex := 133, descriptorIndex := 134, attributes := #[] }, { accessFlags := 1, nameIndex := 133, descriptorIndex := 96, attributes := #[] }] 33 2 #[148, 329, 331, 333] #[{ accessFlags := 26, nameIndex := 335, descriptorIndex := 336, attributes := #[] }, { accessFlags := 26, nameIndex := 340, descriptorIndex := 51, attributes := #[] }, { accessFlags := 26, nameIndex := 17, descriptorIndex := 14, attributes := #[] }, { accessFlags := 26, nameIndex := 41, descriptorIndex := 14, attributes := #[] }, { accessFlags := 128, nameIndex := 13, descriptorIndex := 14, attributes := #[] }, { accessFlags := 2, nameIndex := 50, descriptorIndex := 51, attributes := #[] }])
  fields := #[{ name := "serialVersionUID", type := .long, accessFlags := 26, slot := 0, constantValue := 0 }, { name := "DEFAULT_CAPACITY", type := .int, accessFlags := 26, slot := 1, constantValue := 0 }, { name := "EMPTY_ELEMENTDATA", type := (.array (.object "java/lang/Object")), accessFlags := 26, slot := 2, constantValue := 0 }, { name := "DEFAULTCAPACITY_EMPTY_ELEMENTDATA", type := (.array (.object "java/lang/Object")), accessFlags := 26, slot := 3, constantValue := 0 }, { name := "elementData", type := (.array (.object "java/lang/Object")), accessFlags := 128, slot := 1, constantValue := 0 }, { name := "size", type := .int, accessFlags := 2, slot := 2, constantValue := 0 }]
  methods := #[k13m0, k13m1, k13m2, k13m3, k13m4]
  instanceTypes := #[.int, (.array (.object "java/lang/Object")), .int]
  staticTypes := #[.long, .int, (.array (.object "java/lang/Object")), (.array (.object "java/lang/Object"))]
  resolved := Array.replicate 509 none
  mirror := some 5
  statics := some 0 }

def pool14 : Array CpInfo := pool [(1, .methodref 2 3), (0, .class_ 4), (0, .nameAndType 5 6), (0, u "java/lang/Object"), (0, u "<init>"), (0, u "()V"), (1, .class_ 10), (1, u "java/lang/Number"), (2, .class_ 14), (0, u "java/io/Serializable"), (0, u "serialVersionUID"), (0, u "J")] 20

def k14c0 : Code := { maxStack := 1, maxLocals := 1, code := jdk_18_method_1_code, exceptionTable := #[], attributes := #[] }
def k14m0 : Method := { name := "<init>", desc := "()V", sig := { parameters := [], returnType := none }, accessFlags := 1, code := some k14c0 }
/-- java/lang/Number -/
def k14 : Class := { plain "java/lang/Number" (some 0) with
  accessFlags := 1057
  interfaces := #[12]
  cf := some (fileOf pool14 8 #[] #[{ accessFlags := 1, nameIndex := 5, descriptorIndex := 6, attributes := #[] }] 1057 2 #[13] #[{ accessFlags := 26, nameIndex := 15, descriptorIndex := 16, attributes := #[] }])
  fields := #[{ name := "serialVersionUID", type := .long, accessFlags := 26, slot := 0, constantValue := 0 }]
  methods := #[k14m0]
  instanceTypes := #[]
  staticTypes := #[.long]
  resolved := Array.replicate 37 none
  statics := none }

def pool15 : Array CpInfo := pool [(1, .class_ 2), (0, u "java/lang/Comparable"), (0, .class_ 4), (0, u "java/lang/Object")] 7

/-- java/lang/Comparable -/
def k15 : Class := { plain "java/lang/Comparable" (some 0) with
  accessFlags := 1537
  interfaces := #[]
  cf := some (fileOf pool15 1 #[] #[] 1537 3 #[] #[])
  fields := #[]
  methods := #[]
  instanceTypes := #[]
  staticTypes := #[]
  resolved := Array.replicate 12 none
  statics := none }

def pool16 : Array CpInfo := pool [(1, .class_ 2), (0, u "java/lang/constant/Constable"), (0, .class_ 4), (0, u "java/lang/Object")] 6

/-- java/lang/constant/Constable -/
def k16 : Class := { plain "java/lang/constant/Constable" (some 0) with
  accessFlags := 1537
  interfaces := #[]
  cf := some (fileOf pool16 1 #[] #[] 1537 3 #[] #[])
  fields := #[]
  methods := #[]
  instanceTypes := #[]
  staticTypes := #[]
  resolved := Array.replicate 11 none
  statics := none }

def pool17 : Array CpInfo := pool [(1, .class_ 2), (0, u "java/lang/constant/ConstantDesc"), (0, .class_ 4), (0, u "java/lang/Object")] 32

/-- java/lang/constant/ConstantDesc -/
def k17 : Class := { plain "java/lang/constant/ConstantDesc" (some 0) with
  accessFlags := 1537
  interfaces := #[]
  cf := some (fileOf pool17 1 #[] #[] 1537 3 #[] #[])
  fields := #[]
  methods := #[]
  instanceTypes := #[]
  staticTypes := #[]
  resolved := Array.replicate 37 none
  statics := none }

def pool18 : Array CpInfo := pool [(1, .class_ 2), (0, u "java/lang/Integer"), (16, u "digits"), (0, u "[C"), (46, u "<init>"), (17, u "DigitOnes"), (0, u "[B"), (2, u "DigitTens"), (10, .nameAndType 67 101), (0, u "()V"), (85, u "valueOf"), (0, u "(I)Ljava/lang/Integer;"), (0, .class_ 190), (0, u "java/lang/Integer$IntegerCache"), (0, .fieldref 189 192), (0, .nameAndType 193 194), (0, u "high"), (0, u "I"), (0, .fieldref 189 196), (0, .nameAndType 197 198), (0, u "cache"), (0, u "[Ljava/lang/Integer;"), (0, .methodref 1 200), (0, .nameAndType 67 201), (0, u "(I)V"), (0, .methodref 203 100), (0, .class_ 204), (0, u "java/lang/Number"), (0, .fieldref 1 206), (0, .nameAndType 207 194), (0, u "value"), (94, u "TYPE"), (0, u "Ljava/lang/Class;"), (0, .class_ 305), (0, u "java/lang/Comparable"), (0, .class_ 307), (0, u "java/lang/constant/Constable"), (0, .class_ 309), (0, u "java/lang/constant/ConstantDesc"), (0, u "MIN_VALUE"), (1, u "MAX_VALUE"), (3, u "SIZE"), (1, u "BYTES"), (1, u "serialVersionUID"), (0, u "J")] 131

def k18c0 : Code := { maxStack := 3, maxLocals := 1, code := jdk_33_method_22_code, exceptionTable := #[], attributes := #[] }
def k18m0 : Method := { name := "valueOf", desc := "(I)Ljava/lang/Integer;", sig := { parameters := [.int], returnType := some (.object "java/lang/Integer") }, accessFlags := 9, code := some k18c0 }
def k18c1 : Code := { maxStack := 2, maxLocals := 2, code := jdk_33_method_23_code, exceptionTable := #[], attributes := #[] }
def k18m1 : Method := { name := "<init>", desc := "(I)V", sig := { parameters := [.int], returnType := none }, accessFlags := 1, code := some k18c1 }
/-- java/lang/Integer -/
def k18 : Class := { plain "java/lang/Integer" (some 14) with
  accessFlags := 49
  interfaces := #[15, 16, 17]
  cf := some (fileOf pool18 1 #[.nestMembers #[189]] #[{ accessFlags := 9, nameIndex := 187, descriptorIndex := 188, attributes := #[] }, { accessFlags := 1, nameIndex := 67, descriptorIndex := 201, attributes := #[] }] 49 203 #[304, 306, 308] #[{ accessFlags := 25, nameIndex := 310, descriptorIndex := 194, attributes := #[] }, { accessFlags := 25, nameIndex := 312, descriptorIndex := 194, attributes := #[] }, { accessFlags := 25, nameIndex := 302, descriptorIndex := 303, attributes := #[] }, { accessFlags := 24, nameIndex := 19, descriptorIndex := 20, attributes := #[] }, { accessFlags := 24, nameIndex := 89, descriptorIndex := 86, attributes := #[] }, { accessFlags := 24, nameIndex := 85, descriptorIndex := 86, attributes := #[] }, { accessFlags := 18, nameIndex := 207, descriptorIndex := 194, attributes := #[] }, { accessFlags := 25, nameIndex := 316, descriptorIndex := 194, attributes := #[] }, { accessFlags := 25, nameIndex := 318, descriptorIndex := 194, attributes := #[] }, { accessFlags := 26, nameIndex := 320, descriptorIndex := 321, attributes := #[] }])
  fields := #[{ name := "MIN_VALUE", type := .int, accessFlags := 25, slot := 0, constantValue := 0 }, { name := "MAX_VALUE", type := .int, accessFlags := 25, slot := 1, constantValue := 0 }, { name := "TYPE", type := (.object "java/lang/Class"), accessFlags := 25, slot := 2, constantValue := 0 }, { name := "digits", type := (.array .char), accessFlags := 24, slot := 3, constantValue := 0 }, { name := "DigitTens", type := (.array .byte), accessFlags := 24, slot := 4, constantValue := 0 }, { name := "DigitOnes", type := (.array .byte), accessFlags := 24, slot := 5, constantValue := 0 }, { name := "value", type := .int, accessFlags := 18, slot := 0, constantValue := 0 }, { name := "SIZE", type := .int, accessFlags := 25, slot := 6, constantValue := 0 }, { name := "BYTES", type := .int, accessFlags := 25, slot := 7, constantValue := 0 }, { name := "serialVersionUID", type := .long, accessFlags := 26, slot := 8, constantValue := 0 }]
  methods := #[k18m0, k18m1]
  instanceTypes := #[.int]
  staticTypes := #[.int, .int, (.object "java/lang/Class"), (.array .char), (.array .byte), (.array .byte), .int, .int, .long]
  resolved := Array.replicate 453 none
  mirror := some 8
  statics := none }

def pool19 : Array CpInfo := pool [(2, .class_ 4), (1, u "java/lang/Object"), (0, u "<init>"), (0, u "()V"), (0, .class_ 8), (0, u "java/lang/Integer"), (7, .class_ 18), (1, u "java/lang/Integer$IntegerCache"), (0, u "$assertionsDisabled"), (0, u "Z"), (26, u "high"), (0, u "I"), (8, u "archivedCache"), (0, u "[Ljava/lang/Integer;"), (12, u "cache"), (0, u "low")] 27

def k19m0 : Method := { name := "<init>", desc := "()V", sig := { parameters := [], returnType := none }, accessFlags := 2, code := none }
/-- java/lang/Integer$IntegerCache -/
def k19 : Class := { plain "java/lang/Integer$IntegerCache" (some 0) with
  accessFlags := 48
  interfaces := #[]
  cf := some (fileOf pool19 16 #[.nestHost 7] #[{ accessFlags := 2, nameIndex := 5, descriptorIndex := 6, attributes := #[] }] 48 2 #[] #[{ accessFlags := 24, nameIndex := 72, descriptorIndex := 48, attributes := #[] }, { accessFlags := 24, nameIndex := 47, descriptorIndex := 48, attributes := #[] }, { accessFlags := 24, nameIndex := 71, descriptorIndex := 58, attributes := #[] }, { accessFlags := 8, nameIndex := 57, descriptorIndex := 58, attributes := #[] }, { accessFlags := 4120, nameIndex := 19, descriptorIndex := 20, attributes := #[] }])
  fields := #[{ name := "low", type := .int, accessFlags := 24, slot := 0, constantValue := 0 }, { name := "high", type := .int, accessFlags := 24, slot := 1, constantValue := 0 }, { name := "cache", type := (.array (.object "java/lang/Integer")), accessFlags := 24, slot := 2, constantValue := 0 }, { name := "archivedCache", type := (.array (.object "java/lang/Integer")), accessFlags := 8, slot := 3, constantValue := 0 }, { name := "$assertionsDisabled", type := .boolean, accessFlags := 4120, slot := 4, constantValue := 0 }]
  methods := #[k19m0]
  instanceTypes := #[]
  staticTypes := #[.int, .int, (.array (.object "java/lang/Integer")), (.array (.object "java/lang/Integer")), .boolean]
  resolved := Array.replicate 100 none
  statics := some 1 }

def pool20 : Array CpInfo := pool [(1, .class_ 2), (0, u "java/lang/Math"), (1, .class_ 6), (1, u "java/lang/Object"), (0, u "<init>"), (0, u "()V"), (89, .class_ 100), (1, u "java/lang/Math$RandomNumberGeneratorHolder"), (71, u "negativeZeroFloatBits"), (0, u "J"), (2, u "negativeZeroDoubleBits"), (21, u "max"), (46, u "$assertionsDisabled"), (0, u "Z"), (88, u "(II)I"), (2, u "twoToTheDoubleScaleDown"), (0, u "D"), (4, u "twoToTheDoubleScaleUp"), (9, u "E"), (3, u "PI"), (2, u "TAU"), (2, u "DEGREES_TO_RADIANS"), (0, u "RADIANS_TO_DEGREES")] 94

def k20m0 : Method := { name := "<init>", desc := "()V", sig := { parameters := [], returnType := none }, accessFlags := 2, code := none }
def k20c1 : Code := { maxStack := 2, maxLocals := 2, code := jdk_29_method_65_code, exceptionTable := #[], attributes := #[] }
def k20m1 : Method := { name := "max", desc := "(II)I", sig := { parameters := [.int, .int], returnType := some .int }, accessFlags := 9, code := some k20c1 }
/-- java/lang/Math -/
def k20 : Class := { plain "java/lang/Math" (some 0) with
  accessFlags := 49
  interfaces := #[]
  cf := some (fileOf pool20 1 #[.nestMembers #[98]] #[{ accessFlags := 2, nameIndex := 7, descriptorIndex := 8, attributes := #[] }, { accessFlags := 9, nameIndex := 198, descriptorIndex := 335, attributes := #[] }] 49 4 #[] #[{ accessFlags := 25, nameIndex := 354, descriptorIndex := 339, attributes := #[] }, { accessFlags := 25, nameIndex := 358, descriptorIndex := 339, attributes := #[] }, { accessFlags := 25, nameIndex := 361, descriptorIndex := 339, attributes := #[] }, { accessFlags := 26, nameIndex := 364, descriptorIndex := 339, attributes := #[] }, { accessFlags := 26, nameIndex := 365, descriptorIndex := 339, attributes := #[] }, { accessFlags := 26, nameIndex := 172, descriptorIndex := 173, attributes := #[] }, { accessFlags := 26, nameIndex := 176, descriptorIndex := 173, attributes := #[] }, { accessFlags := 8, nameIndex := 344, descriptorIndex := 339, attributes := #[] }, { accessFlags := 8, nameIndex := 338, descriptorIndex := 339, attributes := #[] }, { accessFlags := 4120, nameIndex := 245, descriptorIndex := 246, attributes := #[] }])
  fields := #[{ name := "E", type := .double, accessFlags := 25, slot := 0, constantValue := 0 }, { name := "PI", type := .double, accessFlags := 25, slot := 1, constantValue := 0 }, { name := "TAU", type := .double, accessFlags := 25, slot := 2, constantValue := 0 }, { name := "DEGREES_TO_RADIANS", type := .double, accessFlags := 26, slot := 3, constantValue := 0 }, { name := "RADIANS_TO_DEGREES", type := .double, accessFlags := 26, slot := 4, constantValue := 0 }, { name := "negativeZeroFloatBits", type := .long, accessFlags := 26, slot := 5, constantValue := 0 }, { name := "negativeZeroDoubleBits", type := .long, accessFlags := 26, slot := 6, constantValue := 0 }, { name := "twoToTheDoubleScaleUp", type := .double, accessFlags := 8, slot := 7, constantValue := 0 }, { name := "twoToTheDoubleScaleDown", type := .double, accessFlags := 8, slot := 8, constantValue := 0 }, { name := "$assertionsDisabled", type := .boolean, accessFlags := 4120, slot := 9, constantValue := 0 }]
  methods := #[k20m0, k20m1]
  instanceTypes := #[]
  staticTypes := #[.double, .double, .double, .double, .double, .long, .long, .double, .double, .boolean]
  resolved := Array.replicate 460 none
  statics := none }

def pool21 : Array CpInfo := pool [(2, .class_ 4), (1, u "java/lang/CharSequence"), (42, .class_ 48), (0, u "java/lang/CharSequence$1CodePointIterator"), (10, .class_ 60), (0, u "java/lang/CharSequence$1CharIterator"), (5, .class_ 67), (0, u "java/lang/Object")] 63

/-- java/lang/CharSequence -/
def k21 : Class := { plain "java/lang/CharSequence" (some 0) with
  accessFlags := 1537
  interfaces := #[]
  cf := some (fileOf pool21 2 #[.nestMembers #[47, 59]] #[] 1537 66 #[] #[])
  fields := #[]
  methods := #[]
  instanceTypes := #[]
  staticTypes := #[]
  resolved := Array.replicate 131 none
  statics := none }

def pool22 : Array CpInfo := pool [(1, .methodref 2 3), (0, .class_ 4), (0, .nameAndType 5 6), (0, u "java/lang/Object"), (0, u "<init>"), (0, u "()V"), (2, .fieldref 10 11), (0, .class_ 12), (0, .nameAndType 13 14), (0, u "java/lang/String"), (0, u "value"), (0, u "[B"), (0, .fieldref 10 16), (0, .nameAndType 17 18), (0, u "coder"), (0, u "B"), (2, u "hash"), (0, u "I"), (2, u "hashIsZero"), (0, u "Z"), (0, .methodref 10 28), (0, .nameAndType 5 29), (0, u "([CIILjava/lang/Void;)V"), (8, .fieldref 10 39), (0, .nameAndType 40 26), (0, u "COMPACT_STRINGS"), (1, .class_ 44), (1, u "java/lang/StringUTF16"), (0, u "compress"), (1, .methodref 42 48), (0, .nameAndType 49 50), (0, u "coderFromArrayLen"), (0, u "([BI)B"), (126, .methodref 42 178), (0, .nameAndType 45 179), (0, u "([CII)[B"), (395, .class_ 576), (0, u "java/lang/CharSequence"), (22, u "CASE_INSENSITIVE_ORDER"), (0, u "Ljava/util/Comparator;"), (409, u "([C)V"), (90, u "serialPersistentFields"), (0, u "[Ljava/io/ObjectStreamField;"), (0, .class_ 1104), (0, u "java/lang/String$CaseInsensitiveComparator"), (1, .class_ 1107), (0, u "java/io/Serializable"), (0, .class_ 1109), (0, u "java/lang/Comparable"), (0, .class_ 1111), (0, u "java/lang/constant/Constable"), (0, .class_ 1113), (0, u "java/lang/constant/ConstantDesc"), (2, u "serialVersionUID"), (0, u "J"), (3, u "REPL"), (0, u "C"), (2, u "LATIN1"), (1, u "UTF16")] 323

def k22m0 : Method := { name := "<init>", desc := "()V", sig := { parameters := [], returnType := none }, accessFlags := 1, code := none }
def k22c1 : Code := { maxStack := 5, maxLocals := 2, code := jdk_42_method_3_code, exceptionTable := #[], attributes := #[] }
def k22m1 : Method := { name := "<init>", desc := "([C)V", sig := { parameters := [(.array .char)], returnType := none }, accessFlags := 1, code := some k22c1 }
def k22c2 : Code := { maxStack := 4, maxLocals := 6, code := jdk_42_method_149_code, exceptionTable := #[], attributes := #[] }
def k22m2 : Method := { name := "<init>", desc := "([CIILjava/lang/Void;)V", sig := { parameters := [(.array .char), .int, .int, (.object "java/lang/Void")], returnType := none }, accessFlags := 2, code := some k22c2 }
/-- java/lang/String -/
def k22 : Class := { plain "java/lang/String" (some 0) with
  accessFlags := 49
  interfaces := #[12, 15, 21, 16, 17]
  cf := some (fileOf pool22 10 #[.nestMembers #[1103]] #[{ accessFlags := 1, nameIndex := 5, descriptorIndex := 6, attributes := #[] }, { accessFlags := 1, nameIndex := 5, descriptorIndex := 1010, attributes := #[] }, { accessFlags := 2, nameIndex := 5, descriptorIndex := 29, attributes := #[] }] 49 2 #[1106, 1108, 575, 1110, 1112] #[{ accessFlags := 18, nameIndex := 13, descriptorIndex := 14, attributes := #[] }, { accessFlags := 18, nameIndex := 17, descriptorIndex := 18, attributes := #[] }, { accessFlags := 2, nameIndex := 21, descriptorIndex := 22, attributes := #[] }, { accessFlags := 2, nameIndex := 25, descriptorIndex := 26, attributes := #[] }, { accessFlags := 26, nameIndex := 1116, descriptorIndex := 1117, attributes := #[] }, { accessFlags := 24, nameIndex := 40, descriptorIndex := 26, attributes := #[] }, { accessFlags := 26, nameIndex := 1101, descriptorIndex := 1102, attributes := #[] }, { accessFlags := 26, nameIndex := 1121, descriptorIndex := 1122, attributes := #[] }, { accessFlags := 25, nameIndex := 599, descriptorIndex := 600, attributes := #[] }, { accessFlags := 24, nameIndex := 1125, descriptorIndex := 18, attributes := #[] }, { accessFlags := 24, nameIndex := 1127, descriptorIndex := 18, attributes := #[] }])
  fields := #[{ name := "value", type := (.array .byte), accessFlags := 18, slot := 0, constantValue := 0 }, { name := "coder", type := .byte, accessFlags := 18, slot := 1, constantValue := 0 }, { name := "hash", type := .int, accessFlags := 2, slot := 2, constantValue := 0 }, { name := "hashIsZero", type := .boolean, accessFlags := 2, slot := 3, constantValue := 0 }, { name := "serialVersionUID", type := .long, accessFlags := 26, slot := 0, constantValue := 0 }, { name := "COMPACT_STRINGS", type := .boolean, accessFlags := 24, slot := 1, constantValue := 0 }, { name := "serialPersistentFields", type := (.array (.object "java/io/ObjectStreamField")), accessFlags := 26, slot := 2, constantValue := 0 }, { name := "REPL", type := .char, accessFlags := 26, slot := 3, constantValue := 0 }, { name := "CASE_INSENSITIVE_ORDER", type := (.object "java/util/Comparator"), accessFlags := 25, slot := 4, constantValue := 0 }, { name := "LATIN1", type := .byte, accessFlags := 24, slot := 5, constantValue := 0 }, { name := "UTF16", type := .byte, accessFlags := 24, slot := 6, constantValue := 0 }]
  methods := #[k22m0, k22m1, k22m2]
  instanceTypes := #[(.array .byte), .byte, .int, .boolean]
  staticTypes := #[.long, .boolean, (.array (.object "java/io/ObjectStreamField")), .char, (.object "java/util/Comparator"), .byte, .byte]
  resolved := Array.replicate 1451 none
  mirror := some 6
  statics := some 2 }

def pool23 : Array CpInfo := pool [(6, .class_ 8), (1, u "java/lang/Object"), (0, u "<init>"), (0, u "()V"), (1, .class_ 14), (1, u "java/lang/StringUTF16"), (31, u "$assertionsDisabled"), (0, u "Z"), (13, u "HI_BYTE_SHIFT"), (0, u "I"), (2, u "LO_BYTE_SHIFT"), (49, .methodref 12 116), (0, .nameAndType 117 118), (0, u "compress"), (0, u "([CI[BII)I"), (3, u "([CII)[B"), (138, u "coderFromArrayLen"), (0, u "([BI)B"), (106, .class_ 371), (1, u "java/lang/StringUTF16$LinesSpliterator"), (58, u "MAX_LENGTH"), (196, .class_ 628), (0, u "java/lang/StringUTF16$CodePointsSpliterator"), (0, .class_ 630), (0, u "java/lang/StringUTF16$CharsSpliterator")] 4

def k23m0 : Method := { name := "<init>", desc := "()V", sig := { parameters := [], returnType := none }, accessFlags := 0, code := none }
def k23c1 : Code := { maxStack := 2, maxLocals := 2, code := jdk_52_method_15_code, exceptionTable := #[], attributes := #[] }
def k23m1 : Method := { name := "coderFromArrayLen", desc := "([BI)B", sig := { parameters := [(.array .byte), .int], returnType := some .byte }, accessFlags := 8, code := some k23c1 }
def k23c2 : Code := { maxStack := 5, maxLocals := 6, code := jdk_52_method_16_code, exceptionTable := #[], attributes := #[] }
def k23m2 : Method := { name := "compress", desc := "([CII)[B", sig := { parameters := [(.array .char), .int, .int], returnType := some (.array .byte) }, accessFlags := 9, code := some k23c2 }
def k23c3 : Code := { maxStack := 3, maxLocals := 7, code := jdk_52_method_21_code, exceptionTable := #[], attributes := #[] }
def k23m3 : Method := { name := "compress", desc := "([CI[BII)I", sig := { parameters := [(.array .char), .int, (.array .byte), .int, .int], returnType := some .int }, accessFlags := 9, code := some k23c3 }
/-- java/lang/StringUTF16 -/
def k23 : Class := { plain "java/lang/StringUTF16" (some 0) with
  accessFlags := 48
  interfaces := #[]
  cf := some (fileOf pool23 12 #[.nestMembers #[627, 629, 369]] #[{ accessFlags := 0, nameIndex := 9, descriptorIndex := 10, attributes := #[] }, { accessFlags := 8, nameIndex := 261, descriptorIndex := 262, attributes := #[] }, { accessFlags := 9, nameIndex := 117, descriptorIndex := 122, attributes := #[] }, { accessFlags := 9, nameIndex := 117, descriptorIndex := 118, attributes := #[] }] 48 6 #[] #[{ accessFlags := 26, nameIndex := 61, descriptorIndex := 62, attributes := #[] }, { accessFlags := 26, nameIndex := 65, descriptorIndex := 62, attributes := #[] }, { accessFlags := 24, nameIndex := 430, descriptorIndex := 62, attributes := #[] }, { accessFlags := 4120, nameIndex := 46, descriptorIndex := 47, attributes := #[] }])
  fields := #[{ name := "HI_BYTE_SHIFT", type := .int, accessFlags := 26, slot := 0, constantValue := 0 }, { name := "LO_BYTE_SHIFT", type := .int, accessFlags := 26, slot := 1, constantValue := 0 }, { name := "MAX_LENGTH", type := .int, accessFlags := 24, slot := 2, constantValue := 0 }, { name := "$assertionsDisabled", type := .boolean, accessFlags := 4120, slot := 3, constantValue := 0 }]
  methods := #[k23m0, k23m1, k23m2, k23m3]
  instanceTypes := #[]
  staticTypes := #[.int, .int, .int, .boolean]
  resolved := Array.replicate 635 none
  statics := none }

def pool24 : Array CpInfo := pool [(1, .class_ 2), (0, u "java/lang/Long"), (55, .nameAndType 59 60), (0, u "<init>"), (0, u "()V"), (24, u "valueOf"), (143, u "(J)Ljava/lang/Long;"), (0, .long 18446744073709551488), (1, .long 127), (1, .fieldref 235 236), (0, .class_ 237), (0, .nameAndType 238 239), (0, u "java/lang/Long$LongCache"), (0, u "cache"), (0, u "[Ljava/lang/Long;"), (0, .methodref 1 241), (0, .nameAndType 59 242), (0, u "(J)V"), (27, .methodref 271 58), (0, .class_ 272), (0, u "java/lang/Number"), (0, .fieldref 1 274), (0, .nameAndType 275 276), (0, u "value"), (0, u "J"), (84, u "TYPE"), (0, u "Ljava/lang/Class;"), (0, .class_ 364), (0, u "java/lang/Comparable"), (0, .class_ 366), (0, u "java/lang/constant/Constable"), (0, .class_ 368), (0, u "java/lang/constant/ConstantDesc"), (0, u "MIN_VALUE"), (1, u "MAX_VALUE"), (4, u "SIZE"), (0, u "I"), (1, u "BYTES"), (1, u "serialVersionUID")] 142

def k24c0 : Code := { maxStack := 4, maxLocals := 3, code := jdk_35_method_24_code, exceptionTable := #[], attributes := #[] }
def k24m0 : Method := { name := "valueOf", desc := "(J)Ljava/lang/Long;", sig := { parameters := [.long], returnType := some (.object "java/lang/Long") }, accessFlags := 9, code := some k24c0 }
def k24c1 : Code := { maxStack := 3, maxLocals := 3, code := jdk_35_method_26_code, exceptionTable := #[], attributes := #[] }
def k24m1 : Method := { name := "<init>", desc := "(J)V", sig := { parameters := [.long], returnType := none }, accessFlags := 1, code := some k24c1 }
/-- java/lang/Long -/
def k24 : Class := { plain "java/lang/Long" (some 14) with
  accessFlags := 49
  interfaces := #[15, 16, 17]
  cf := some (fileOf pool24 1 #[.nestMembers #[235]] #[{ accessFlags := 9, nameIndex := 85, descriptorIndex := 229, attributes := #[] }, { accessFlags := 1, nameIndex := 59, descriptorIndex := 242, attributes := #[] }] 49 271 #[363, 365, 367] #[{ accessFlags := 25, nameIndex := 369, descriptorIndex := 276, attributes := #[] }, { accessFlags := 25, nameIndex := 371, descriptorIndex := 276, attributes := #[] }, { accessFlags := 25, nameIndex := 361, descriptorIndex := 362, attributes := #[] }, { accessFlags := 18, nameIndex := 275, descriptorIndex := 276, attributes := #[] }, { accessFlags := 25, nameIndex := 376, descriptorIndex := 377, attributes := #[] }, { accessFlags := 25, nameIndex := 379, descriptorIndex := 377, attributes := #[] }, { accessFlags := 26, nameIndex := 381, descriptorIndex := 276, attributes := #[] }])
  fields := #[{ name := "MIN_VALUE", type := .long, accessFlags := 25, slot := 0, constantValue := 0 }, { name := "MAX_VALUE", type := .long, accessFlags := 25, slot := 1, constantValue := 0 }, { name := "TYPE", type := (.object "java/lang/Class"), accessFlags := 25, slot := 2, constantValue := 0 }, { name := "value", type := .long, accessFlags := 18, slot := 0, constantValue := 0 }, { name := "SIZE", type := .int, accessFlags := 25, slot := 3, constantValue := 0 }, { name := "BYTES", type := .int, accessFlags := 25, slot := 4, constantValue := 0 }, { name := "serialVersionUID", type := .long, accessFlags := 26, slot := 5, constantValue := 0 }]
  methods := #[k24m0, k24m1]
  instanceTypes := #[.long]
  staticTypes := #[.long, .long, (.object "java/lang/Class"), .int, .int, .long]
  resolved := Array.replicate 524 none
  mirror := some 7
  statics := none }

def pool25 : Array CpInfo := pool [(2, .class_ 4), (1, u "java/lang/Object"), (0, u "<init>"), (0, u "()V"), (0, .class_ 8), (0, u "java/lang/Long"), (7, .class_ 18), (1, u "java/lang/Long$LongCache"), (0, u "$assertionsDisabled"), (0, u "Z"), (8, u "archivedCache"), (0, u "[Ljava/lang/Long;"), (7, u "cache")] 24

def k25m0 : Method := { name := "<init>", desc := "()V", sig := { parameters := [], returnType := none }, accessFlags := 2, code := none }
/-- java/lang/Long$LongCache -/
def k25 : Class := { plain "java/lang/Long$LongCache" (some 0) with
  accessFlags := 48
  interfaces := #[]
  cf := some (fileOf pool25 16 #[.nestHost 7] #[{ accessFlags := 2, nameIndex := 5, descriptorIndex := 6, attributes := #[] }] 48 2 #[] #[{ accessFlags := 24, nameIndex := 38, descriptorIndex := 30, attributes := #[] }, { accessFlags := 8, nameIndex := 29, descriptorIndex := 30, attributes := #[] }, { accessFlags := 4120, nameIndex := 19, descriptorIndex := 20, attributes := #[] }])
  fields := #[{ name := "cache", type := (.array (.object "java/lang/Long")), accessFlags := 24, slot := 0, constantValue := 0 }, { name := "archivedCache", type := (.array (.object "java/lang/Long")), accessFlags := 8, slot := 1, constantValue := 0 }, { name := "$assertionsDisabled", type := .boolean, accessFlags := 4120, slot := 2, constantValue := 0 }]
  methods := #[k25m0]
  instanceTypes := #[]
  staticTypes := #[(.array (.object "java/lang/Long")), (.array (.object "java/lang/Long")), .boolean]
  resolved := Array.replicate 63 none
  statics := some 3 }

def pool26 : Array CpInfo := pool [(4, .class_ 6), (1, u "java/lang/Object"), (0, u "<init>"), (0, u "()V"), (5, .class_ 16), (1, u "java/lang/StringLatin1"), (104, u "$assertionsDisabled"), (0, u "Z"), (98, .class_ 223), (1, u "java/lang/StringLatin1$LinesSpliterator"), (166, .class_ 391), (0, u "java/lang/StringLatin1$CharsSpliterator")] 3

def k26m0 : Method := { name := "<init>", desc := "()V", sig := { parameters := [], returnType := none }, accessFlags := 0, code := none }
/-- java/lang/StringLatin1 -/
def k26 : Class := { plain "java/lang/StringLatin1" (some 0) with
  accessFlags := 48
  interfaces := #[]
  cf := some (fileOf pool26 14 #[.nestMembers #[390, 221]] #[{ accessFlags := 0, nameIndex := 7, descriptorIndex := 8, attributes := #[] }] 48 4 #[] #[{ accessFlags := 4120, nameIndex := 121, descriptorIndex := 122, attributes := #[] }])
  fields := #[{ name := "$assertionsDisabled", type := .boolean, accessFlags := 4120, slot := 0, constantValue := 0 }]
  methods := #[k26m0]
  instanceTypes := #[]
  staticTypes := #[.boolean]
  resolved := Array.replicate 395 none
  statics := none }

def pool27 : Array CpInfo := pool [(2, .class_ 4), (1, u "java/lang/Object"), (0, u "<init>"), (0, u "()V"), (17, .class_ 26), (1, u "jdk/internal/util/Preconditions"), (28, .class_ 56), (0, u "jdk/internal/util/Preconditions$4"), (57, .class_ 115), (0, u "jdk/internal/util/Preconditions$1"), (7, u "SIOOBE_FORMATTER"), (0, u "Ljava/util/function/BiFunction;"), (0, .class_ 126), (0, u "jdk/internal/util/Preconditions$2"), (3, u "AIOOBE_FORMATTER"), (0, .class_ 132), (0, u "jdk/internal/util/Preconditions$3"), (3, u "IOOBE_FORMATTER")] 57

def k27m0 : Method := { name := "<init>", desc := "()V", sig := { parameters := [], returnType := none }, accessFlags := 1, code := none }
/-- jdk/internal/util/Preconditions -/
def k27 : Class := { plain "jdk/internal/util/Preconditions" (some 0) with
  accessFlags := 33
  interfaces := #[]
  cf := some (fileOf pool27 24 #[.nestMembers #[55, 131, 125, 114]] #[{ accessFlags := 1, nameIndex := 5, descriptorIndex := 6, attributes := #[] }] 33 2 #[] #[{ accessFlags := 25, nameIndex := 123, descriptorIndex := 124, attributes := #[] }, { accessFlags := 25, nameIndex := 130, descriptorIndex := 124, attributes := #[] }, { accessFlags := 25, nameIndex := 136, descriptorIndex := 124, attributes := #[] }])
  fields := #[{ name := "SIOOBE_FORMATTER", type := (.object "java/util/function/BiFunction"), accessFlags := 25, slot := 0, constantValue := 0 }, { name := "AIOOBE_FORMATTER", type := (.object "java/util/function/BiFunction"), accessFlags := 25, slot := 1, constantValue := 0 }, { name := "IOOBE_FORMATTER", type := (.object "java/util/function/BiFunction"), accessFlags := 25, slot := 2, constantValue := 0 }]
  methods := #[k27m0]
  instanceTypes := #[]
  staticTypes := #[(.object "java/util/function/BiFunction"), (.object "java/util/function/BiFunction"), (.object "java/util/function/BiFunction")]
  resolved := Array.replicate 194 none
  statics := some 4 }

def pool28 : Array CpInfo := pool [(9, u "<init>"), (6, .class_ 18), (1, u "java/lang/Object"), (0, u "()V"), (1, .class_ 23), (1, u "jdk/internal/util/ArraysSupport"), (0, u "LOG2_ARRAY_LONG_INDEX_SCALE"), (0, u "I"), (2, u "U"), (0, u "Ljdk/internal/misc/Unsafe;"), (8, u "BIG_ENDIAN"), (0, u "Z"), (8, u "LOG2_BYTE_BIT_SIZE"), (4, u "LOG2_ARRAY_INT_INDEX_SCALE"), (54, u "JLA"), (0, u "Ljdk/internal/access/JavaLangAccess;"), (11, u "LOG2_ARRAY_BOOLEAN_INDEX_SCALE"), (9, u "LOG2_ARRAY_BYTE_INDEX_SCALE"), (5, u "LOG2_ARRAY_CHAR_INDEX_SCALE"), (5, u "LOG2_ARRAY_SHORT_INDEX_SCALE"), (18, u "LOG2_ARRAY_FLOAT_INDEX_SCALE"), (24, u "LOG2_ARRAY_DOUBLE_INDEX_SCALE"), (89, u "T_BOOLEAN"), (2, u "T_CHAR"), (1, u "T_FLOAT"), (1, u "T_DOUBLE"), (1, u "T_BYTE"), (1, u "T_SHORT"), (1, u "T_INT"), (1, u "T_LONG"), (1, u "SOFT_MAX_ARRAY_LENGTH")] 83

def k28m0 : Method := { name := "<init>", desc := "()V", sig := { parameters := [], returnType := none }, accessFlags := 2, code := none }
/-- jdk/internal/util/ArraysSupport -/
def k28 : Class := { plain "jdk/internal/util/ArraysSupport" (some 0) with
  accessFlags := 33
  interfaces := #[]
  cf := some (fileOf pool28 21 #[] #[{ accessFlags := 2, nameIndex := 9, descriptorIndex := 19, attributes := #[] }] 33 16 #[] #[{ accessFlags := 24, nameIndex := 28, descriptorIndex := 29, attributes := #[] }, { accessFlags := 26, nameIndex := 38, descriptorIndex := 39, attributes := #[] }, { accessFlags := 25, nameIndex := 121, descriptorIndex := 25, attributes := #[] }, { accessFlags := 25, nameIndex := 131, descriptorIndex := 25, attributes := #[] }, { accessFlags := 25, nameIndex := 137, descriptorIndex := 25, attributes := #[] }, { accessFlags := 25, nameIndex := 143, descriptorIndex := 25, attributes := #[] }, { accessFlags := 25, nameIndex := 53, descriptorIndex := 25, attributes := #[] }, { accessFlags := 25, nameIndex := 24, descriptorIndex := 25, attributes := #[] }, { accessFlags := 25, nameIndex := 162, descriptorIndex := 25, attributes := #[] }, { accessFlags := 25, nameIndex := 187, descriptorIndex := 25, attributes := #[] }, { accessFlags := 26, nameIndex := 48, descriptorIndex := 25, attributes := #[] }, { accessFlags := 25, nameIndex := 277, descriptorIndex := 25, attributes := #[] }, { accessFlags := 25, nameIndex := 280, descriptorIndex := 25, attributes := #[] }, { accessFlags := 25, nameIndex := 282, descriptorIndex := 25, attributes := #[] }, { accessFlags := 25, nameIndex := 284, descriptorIndex := 25, attributes := #[] }, { accessFlags := 25, nameIndex := 286, descriptorIndex := 25, attributes := #[] }, { accessFlags := 25, nameIndex := 288, descriptorIndex := 25, attributes := #[] }, { accessFlags := 25, nameIndex := 290, descriptorIndex := 25, attributes := #[] }, { accessFlags := 25, nameIndex := 292, descriptorIndex := 25, attributes := #[] }, { accessFlags := 26, nameIndex := 108, descriptorIndex := 109, attributes := #[] }, { accessFlags := 25, nameIndex := 294, descriptorIndex := 25, attributes := #[] }])
  fields := #[{ name := "U", type := (.object "jdk/internal/misc/Unsafe"), accessFlags := 24, slot := 0, constantValue := 0 }, { name := "BIG_ENDIAN", type := .boolean, accessFlags := 26, slot := 1, constantValue := 0 }, { name := "LOG2_ARRAY_BOOLEAN_INDEX_SCALE", type := .int, accessFlags := 25, slot := 2, constantValue := 0 }, { name := "LOG2_ARRAY_BYTE_INDEX_SCALE", type := .int, accessFlags := 25, slot := 3, constantValue := 0 }, { name := "LOG2_ARRAY_CHAR_INDEX_SCALE", type := .int, accessFlags := 25, slot := 4, constantValue := 0 }, { name := "LOG2_ARRAY_SHORT_INDEX_SCALE", type := .int, accessFlags := 25, slot := 5, constantValue := 0 }, { name := "LOG2_ARRAY_INT_INDEX_SCALE", type := .int, accessFlags := 25, slot := 6, constantValue := 0 }, { name := "LOG2_ARRAY_LONG_INDEX_SCALE", type := .int, accessFlags := 25, slot := 7, constantValue := 0 }, { name := "LOG2_ARRAY_FLOAT_INDEX_SCALE", type := .int, accessFlags := 25, slot := 8, constantValue := 0 }, { name := "LOG2_ARRAY_DOUBLE_INDEX_SCALE", type := .int, accessFlags := 25, slot := 9, constantValue := 0 }, { name := "LOG2_BYTE_BIT_SIZE", type := .int, accessFlags := 26, slot := 10, constantValue := 0 }, { name := "T_BOOLEAN", type := .int, accessFlags := 25, slot := 11, constantValue := 0 }, { name := "T_CHAR", type := .int, accessFlags := 25, slot := 12, constantValue := 0 }, { name := "T_FLOAT", type := .int, accessFlags := 25, slot := 13, constantValue := 0 }, { name := "T_DOUBLE", type := .int, accessFlags := 25, slot := 14, constantValue := 0 }, { name := "T_BYTE", type := .int, accessFlags := 25, slot := 15, constantValue := 0 }, { name := "T_SHORT", type := .int, accessFlags := 25, slot := 16, constantValue := 0 }, { name := "T_INT", type := .int, accessFlags := 25, slot := 17, constantValue := 0 }, { name := "T_LONG", type := .int, accessFlags := 25, slot := 18, constantValue := 0 }, { name := "JLA", type := (.object "jdk/internal/access/JavaLangAccess"), accessFlags := 26, slot := 19, constantValue := 0 }, { name := "SOFT_MAX_ARRAY_LENGTH", type := .int, accessFlags := 25, slot := 20, constantValue := 0 }]
  methods := #[k28m0]
  instanceTypes := #[]
  staticTypes := #[(.object "jdk/internal/misc/Unsafe"), .boolean, .int, .int, .int, .int, .int, .int, .int, .int, .int, .int, .int, .int, .int, .int, .int, .int, .int, (.object "jdk/internal/access/JavaLangAccess"), .int]
  resolved := Array.replicate 378 none
  statics := none }

def pool29 : Array CpInfo := pool [(1, u "java/lang/Class"), (0, .class_ 1), (0, u "java/lang/Object"), (0, .class_ 3)] 0

/-- java/lang/Class -/
def k29 : Class := { plain "java/lang/Class" (some 0) with
  accessFlags := 49
  interfaces := #[]
  cf := some (fileOf pool29 2 #[] #[] 49 4 #[] #[])
  fields := #[]
  methods := #[]
  instanceTypes := #[]
  staticTypes := #[]
  resolved := Array.replicate 5 none
  statics := none }

/-- the primitive byte -/
def k30 : Class := { plain "byte" none with kind := .primitive 'B', accessFlags := 0x411 }
/-- [B -/
def k31 : Class := { plain "[B" (some 0) with kind := .array 30 .byte, interfaces := #[11, 12], accessFlags := 1041 }

/-- the primitive char -/
def k32 : Class := { plain "char" none with kind := .primitive 'C', accessFlags := 0x411 }
/-- [C -/
def k33 : Class := { plain "[C" (some 0) with kind := .array 32 .char, interfaces := #[11, 12], accessFlags := 1041 }

/-- the primitive int -/
def k34 : Class := { plain "int" none with kind := .primitive 'I', accessFlags := 0x411 }
/-- [I -/
def k35 : Class := { plain "[I" (some 0) with kind := .array 34 .int, interfaces := #[11, 12], accessFlags := 1041, mirror := some 9 }

/-- [Ljava/lang/Integer; -/
def k36 : Class := { plain "[Ljava/lang/Integer;" (some 0) with kind := .array 18 (.object "java/lang/Integer"), interfaces := #[11, 12], accessFlags := 1041 }

/-- [Ljava/lang/Long; -/
def k37 : Class := { plain "[Ljava/lang/Long;" (some 0) with kind := .array 24 (.object "java/lang/Long"), interfaces := #[11, 12], accessFlags := 1041 }

/-- [Ljava/lang/Object; -/
def k38 : Class := { plain "[Ljava/lang/Object;" (some 0) with kind := .array 0 (.object "java/lang/Object"), interfaces := #[11, 12], accessFlags := 1041 }

def heap : Heap := #[{ cls := 13, slots := #[.long 0, .int 0, .ref 524, .ref 525], vm := .statics 13 },
  { cls := 19, slots := #[.int 0, .int 127, .ref 10, .null, .int 0], vm := .statics 19 },
  { cls := 22, slots := #[.long 0, .int 1, .null, .int 0, .null, .int 0, .int 0], vm := .statics 22 },
  { cls := 25, slots := #[.ref 11, .null, .int 0], vm := .statics 25 },
  { cls := 27, slots := #[.null, .null, .null], vm := .statics 27 },
  { cls := 29, slots := #[], vm := .mirror 13 },
  { cls := 29, slots := #[], vm := .mirror 22 },
  { cls := 29, slots := #[], vm := .mirror 24 },
  { cls := 29, slots := #[], vm := .mirror 18 },
  { cls := 29, slots := #[], vm := .mirror 35 },
  { cls := 36, slots := #[.ref 12, .ref 13, .ref 14, .ref 15, .ref 16, .ref 17, .ref 18, .ref 19, .ref 20, .ref 21, .ref 22, .ref 23, .ref 24, .ref 25, .ref 26, .ref 27, .ref 28, .ref 29, .ref 30, .ref 31, .ref 32, .ref 33, .ref 34, .ref 35, .ref 36, .ref 37, .ref 38, .ref 39, .ref 40, .ref 41, .ref 42, .ref 43, .ref 44, .ref 45, .ref 46, .ref 47, .ref 48, .ref 49, .ref 50, .ref 51, .ref 52, .ref 53, .ref 54, .ref 55, .ref 56, .ref 57, .ref 58, .ref 59, .ref 60, .ref 61, .ref 62, .ref 63, .ref 64, .ref 65, .ref 66, .ref 67, .ref 68, .ref 69, .ref 70, .ref 71, .ref 72, .ref 73, .ref 74, .ref 75, .ref 76, .ref 77, .ref 78, .ref 79, .ref 80, .ref 81, .ref 82, .ref 83, .ref 84, .ref 85, .ref 86, .ref 87, .ref 88, .ref 89, .ref 90, .ref 91, .ref 92, .ref 93, .ref 94, .ref 95, .ref 96, .ref 97, .ref 98, .ref 99, .ref 100, .ref 101, .ref 102, .ref 103, .ref 104, .ref 105, .ref 106, .ref 107, .ref 108, .ref 109, .ref 110, .ref 111, .ref 112, .ref 113, .ref 114, .ref 115, .ref 116, .ref 117, .ref 118, .ref 119, .ref 120, .ref 121, .ref 122, .ref 123, .ref 124, .ref 125, .ref 126, .ref 127, .ref 128, .ref 129, .ref 130, .ref 131, .ref 132, .ref 133, .ref 134, .ref 135, .ref 136, .ref 137, .ref 138, .ref 139, .ref 140, .ref 141, .ref 142, .ref 143, .ref 144, .ref 145, .ref 146, .ref 147, .ref 148, .ref 149, .ref 150, .ref 151, .ref 152, .ref 153, .ref 154, .ref 155, .ref 156, .ref 157, .ref 158, .ref 159, .ref 160, .ref 161, .ref 162, .ref 163, .ref 164, .ref 165, .ref 166, .ref 167, .ref 168, .ref 169, .ref 170, .ref 171, .ref 172, .ref 173, .ref 174, .ref 175, .ref 176, .ref 177, .ref 178, .ref 179, .ref 180, .ref 181, .ref 182, .ref 183, .ref 184, .ref 185, .ref 186, .ref 187, .ref 188, .ref 189, .ref 190, .ref 191, .ref 192, .ref 193, .ref 194, .ref 195, .ref 196, .ref 197, .ref 198, .ref 199, .ref 200, .ref 201, .ref 202, .ref 203, .ref 204, .ref 205, .ref 206, .ref 207, .ref 208, .ref 209, .ref 210, .ref 211, .ref 212, .ref 213, .ref 214, .ref 215, .ref 216, .ref 217, .ref 218, .ref 219, .ref 220, .ref 221, .ref 222, .ref 223, .ref 224, .ref 225, .ref 226, .ref 227, .ref 228, .ref 229, .ref 230, .ref 231, .ref 232, .ref 233, .ref 234, .ref 235, .ref 236, .ref 237, .ref 238, .ref 239, .ref 240, .ref 241, .ref 242, .ref 243, .ref 244, .ref 245, .ref 246, .ref 247, .ref 248, .ref 249, .ref 250, .ref 251, .ref 252, .ref 253, .ref 254, .ref 255, .ref 256, .ref 257, .ref 258, .ref 259, .ref 260, .ref 261, .ref 262, .ref 263, .ref 264, .ref 265, .ref 266, .ref 267], vm := .none },
  { cls := 37, slots := #[.ref 268, .ref 269, .ref 270, .ref 271, .ref 272, .ref 273, .ref 274, .ref 275, .ref 276, .ref 277, .ref 278, .ref 279, .ref 280, .ref 281, .ref 282, .ref 283, .ref 284, .ref 285, .ref 286, .ref 287, .ref 288, .ref 289, .ref 290, .ref 291, .ref 292, .ref 293, .ref 294, .ref 295, .ref 296, .ref 297, .ref 298, .ref 299, .ref 300, .ref 301, .ref 302, .ref 303, .ref 304, .ref 305, .ref 306, .ref 307, .ref 308, .ref 309, .ref 310, .ref 311, .ref 312, .ref 313, .ref 314, .ref 315, .ref 316, .ref 317, .ref 318, .ref 319, .ref 320, .ref 321, .ref 322, .ref 323, .ref 324, .ref 325, .ref 326, .ref 327, .ref 328, .ref 329, .ref 330, .ref 331, .ref 332, .ref 333, .ref 334, .ref 335, .ref 336, .ref 337, .ref 338, .ref 339, .ref 340, .ref 341, .ref 342, .ref 343, .ref 344, .ref 345, .ref 346, .ref 347, .ref 348, .ref 349, .ref 350, .ref 351, .ref 352, .ref 353, .ref 354, .ref 355, .ref 356, .ref 357, .ref 358, .ref 359, .ref 360, .ref 361, .ref 362, .ref 363, .ref 364, .ref 365, .ref 366, .ref 367, .ref 368, .ref 369, .ref 370, .ref 371, .ref 372, .ref 373, .ref 374, .ref 375, .ref 376, .ref 377, .ref 378, .ref 379, .ref 380, .ref 381, .ref 382, .ref 383, .ref 384, .ref 385, .ref 386, .ref 387, .ref 388, .ref 389, .ref 390, .ref 391, .ref 392, .ref 393, .ref 394, .ref 395, .ref 396, .ref 397, .ref 398, .ref 399, .ref 400, .ref 401, .ref 402, .ref 403, .ref 404, .ref 405, .ref 406, .ref 407, .ref 408, .ref 409, .ref 410, .ref 411, .ref 412, .ref 413, .ref 414, .ref 415, .ref 416, .ref 417, .ref 418, .ref 419, .ref 420, .ref 421, .ref 422, .ref 423, .ref 424, .ref 425, .ref 426, .ref 427, .ref 428, .ref 429, .ref 430, .ref 431, .ref 432, .ref 433, .ref 434, .ref 435, .ref 436, .ref 437, .ref 438, .ref 439, .ref 440, .ref 441, .ref 442, .ref 443, .ref 444, .ref 445, .ref 446, .ref 447, .ref 448, .ref 449, .ref 450, .ref 451, .ref 452, .ref 453, .ref 454, .ref 455, .ref 456, .ref 457, .ref 458, .ref 459, .ref 460, .ref 461, .ref 462, .ref 463, .ref 464, .ref 465, .ref 466, .ref 467, .ref 468, .ref 469, .ref 470, .ref 471, .ref 472, .ref 473, .ref 474, .ref 475, .ref 476, .ref 477, .ref 478, .ref 479, .ref 480, .ref 481, .ref 482, .ref 483, .ref 484, .ref 485, .ref 486, .ref 487, .ref 488, .ref 489, .ref 490, .ref 491, .ref 492, .ref 493, .ref 494, .ref 495, .ref 496, .ref 497, .ref 498, .ref 499, .ref 500, .ref 501, .ref 502, .ref 503, .ref 504, .ref 505, .ref 506, .ref 507, .ref 508, .ref 509, .ref 510, .ref 511, .ref 512, .ref 513, .ref 514, .ref 515, .ref 516, .ref 517, .ref 518, .ref 519, .ref 520, .ref 521, .ref 522, .ref 523], vm := .none },
  { cls := 18, slots := #[.int (-128)], vm := .none },
  { cls := 18, slots := #[.int (-127)], vm := .none },
  { cls := 18, slots := #[.int (-126)], vm := .none },
  { cls := 18, slots := #[.int (-125)], vm := .none },
  { cls := 18, slots := #[.int (-124)], vm := .none },
  { cls := 18, slots := #[.int (-123)], vm := .none },
  { cls := 18, slots := #[.int (-122)], vm := .none },
  { cls := 18, slots := #[.int (-121)], vm := .none },
  { cls := 18, slots := #[.int (-120)], vm := .none },
  { cls := 18, slots := #[.int (-119)], vm := .none },
  { cls := 18, slots := #[.int (-118)], vm := .none },
  { cls := 18, slots := #[.int (-117)], vm := .none },
  { cls := 18, slots := #[.int (-116)], vm := .none },
  { cls := 18, slots := #[.int (-115)], vm := .none },
  { cls := 18, slots := #[.int (-114)], vm := .none },
  { cls := 18, slots := #[.int (-113)], vm := .none },
  { cls := 18, slots := #[.int (-112)], vm := .none },
  { cls := 18, slots := #[.int (-111)], vm := .none },
  { cls := 18, slots := #[.int (-110)], vm := .none },
  { cls := 18, slots := #[.int (-109)], vm := .none },
  { cls := 18, slots := #[.int (-108)], vm := .none },
  { cls := 18, slots := #[.int (-107)], vm := .none },
  { cls := 18, slots := #[.int (-106)], vm := .none },
  { cls := 18, slots := #[.int (-105)], vm := .none },
  { cls := 18, slots := #[.int (-104)], vm := .none },
  { cls := 18, slots := #[.int (-103)], vm := .none },
  { cls := 18, slots := #[.int (-102)], vm := .none },
  { cls := 18, slots := #[.int (-101)], vm := .none },
  { cls := 18, slots := #[.int (-100)], vm := .none },
  { cls := 18, slots := #[.int (-99)], vm := .none },
  { cls := 18, slots := #[.int (-98)], vm := .none },
  { cls := 18, slots := #[.int (-97)], vm := .none },
  { cls := 18, slots := #[.int (-96)], vm := .none },
  { cls := 18, slots := #[.int (-95)], vm := .none },
  { cls := 18, slots := #[.int (-94)], vm := .none },
  { cls := 18, slots := #[.int (-93)], vm := .none },
  { cls := 18, slots := #[.int (-92)], vm := .none },
  { cls := 18, slots := #[.int (-91)], vm := .none },
  { cls := 18, slots := #[.int (-90)], vm := .none },
  { cls := 18, slots := #[.int (-89)], vm := .none },
  { cls := 18, slots := #[.int (-88)], vm := .none },
  { cls := 18, slots := #[.int (-87)], vm := .none },
  { cls := 18, slots := #[.int (-86)], vm := .none },
  { cls := 18, slots := #[.int (-85)], vm := .none },
  { cls := 18, slots := #[.int (-84)], vm := .none },
  { cls := 18, slots := #[.int (-83)], vm := .none },
  { cls := 18, slots := #[.int (-82)], vm := .none },
  { cls := 18, slots := #[.int (-81)], vm := .none },
  { cls := 18, slots := #[.int (-80)], vm := .none },
  { cls := 18, slots := #[.int (-79)], vm := .none },
  { cls := 18, slots := #[.int (-78)], vm := .none },
  { cls := 18, slots := #[.int (-77)], vm := .none },
  { cls := 18, slots := #[.int (-76)], vm := .none },
  { cls := 18, slots := #[.int (-75)], vm := .none },
  { cls := 18, slots := #[.int (-74)], vm := .none },
  { cls := 18, slots := #[.int (-73)], vm := .none },
  { cls := 18, slots := #[.int (-72)], vm := .none },
  { cls := 18, slots := #[.int (-71)], vm := .none },
  { cls := 18, slots := #[.int (-70)], vm := .none },
  { cls := 18, slots := #[.int (-69)], vm := .none },
  { cls := 18, slots := #[.int (-68)], vm := .none },
  { cls := 18, slots := #[.int (-67)], vm := .none },
  { cls := 18, slots := #[.int (-66)], vm := .none },
  { cls := 18, slots := #[.int (-65)], vm := .none },
  { cls := 18, slots := #[.int (-64)], vm := .none },
  { cls := 18, slots := #[.int (-63)], vm := .none },
  { cls := 18, slots := #[.int (-62)], vm := .none },
  { cls := 18, slots := #[.int (-61)], vm := .none },
  { cls := 18, slots := #[.int (-60)], vm := .none },
  { cls := 18, slots := #[.int (-59)], vm := .none },
  { cls := 18, slots := #[.int (-58)], vm := .none },
  { cls := 18, slots := #[.int (-57)], vm := .none },
  { cls := 18, slots := #[.int (-56)], vm := .none },
  { cls := 18, slots := #[.int (-55)], vm := .none },
  { cls := 18, slots := #[.int (-54)], vm := .none },
  { cls := 18, slots := #[.int (-53)], vm := .none },
  { cls := 18, slots := #[.int (-52)], vm := .none },
  { cls := 18, slots := #[.int (-51)], vm := .none },
  { cls := 18, slots := #[.int (-50)], vm := .none },
  { cls := 18, slots := #[.int (-49)], vm := .none },
  { cls := 18, slots := #[.int (-48)], vm := .none },
  { cls := 18, slots := #[.int (-47)], vm := .none },
  { cls := 18, slots := #[.int (-46)], vm := .none },
  { cls := 18, slots := #[.int (-45)], vm := .none },
  { cls := 18, slots := #[.int (-44)], vm := .none },
  { cls := 18, slots := #[.int (-43)], vm := .none },
  { cls := 18, slots := #[.int (-42)], vm := .none },
  { cls := 18, slots := #[.int (-41)], vm := .none },
  { cls := 18, slots := #[.int (-40)], vm := .none },
  { cls := 18, slots := #[.int (-39)], vm := .none },
  { cls := 18, slots := #[.int (-38)], vm := .none },
  { cls := 18, slots := #[.int (-37)], vm := .none },
  { cls := 18, slots := #[.int (-36)], vm := .none },
  { cls := 18, slots := #[.int (-35)], vm := .none },
  { cls := 18, slots := #[.int (-34)], vm := .none },
  { cls := 18, slots := #[.int (-33)], vm := .none },
  { cls := 18, slots := #[.int (-32)], vm := .none },
  { cls := 18, slots := #[.int (-31)], vm := .none },
  { cls := 18, slots := #[.int (-30)], vm := .none },
  { cls := 18, slots := #[.int (-29)], vm := .none },
  { cls := 18, slots := #[.int (-28)], vm := .none },
  { cls := 18, slots := #[.int (-27)], vm := .none },
  { cls := 18, slots := #[.int (-26)], vm := .none },
  { cls := 18, slots := #[.int (-25)], vm := .none },
  { cls := 18, slots := #[.int (-24)], vm := .none },
  { cls := 18, slots := #[.int (-23)], vm := .none },
  { cls := 18, slots := #[.int (-22)], vm := .none },
  { cls := 18, slots := #[.int (-21)], vm := .none },
  { cls := 18, slots := #[.int (-20)], vm := .none },
  { cls := 18, slots := #[.int (-19)], vm := .none },
  { cls := 18, slots := #[.int (-18)], vm := .none },
  { cls := 18, slots := #[.int (-17)], vm := .none },
  { cls := 18, slots := #[.int (-16)], vm := .none },
  { cls := 18, slots := #[.int (-15)], vm := .none },
  { cls := 18, slots := #[.int (-14)], vm := .none },
  { cls := 18, slots := #[.int (-13)], vm := .none },
  { cls := 18, slots := #[.int (-12)], vm := .none },
  { cls := 18, slots := #[.int (-11)], vm := .none },
  { cls := 18, slots := #[.int (-10)], vm := .none },
  { cls := 18, slots := #[.int (-9)], vm := .none },
  { cls := 18, slots := #[.int (-8)], vm := .none },
  { cls := 18, slots := #[.int (-7)], vm := .none },
  { cls := 18, slots := #[.int (-6)], vm := .none },
  { cls := 18, slots := #[.int (-5)], vm := .none },
  { cls := 18, slots := #[.int (-4)], vm := .none },
  { cls := 18, slots := #[.int (-3)], vm := .none },
  { cls := 18, slots := #[.int (-2)], vm := .none },
  { cls := 18, slots := #[.int (-1)], vm := .none },
  { cls := 18, slots := #[.int 0], vm := .none },
  { cls := 18, slots := #[.int 1], vm := .none },
  { cls := 18, slots := #[.int 2], vm := .none },
  { cls := 18, slots := #[.int 3], vm := .none },
  { cls := 18, slots := #[.int 4], vm := .none },
  { cls := 18, slots := #[.int 5], vm := .none },
  { cls := 18, slots := #[.int 6], vm := .none },
  { cls := 18, slots := #[.int 7], vm := .none },
  { cls := 18, slots := #[.int 8], vm := .none },
  { cls := 18, slots := #[.int 9], vm := .none },
  { cls := 18, slots := #[.int 10], vm := .none },
  { cls := 18, slots := #[.int 11], vm := .none },
  { cls := 18, slots := #[.int 12], vm := .none },
  { cls := 18, slots := #[.int 13], vm := .none },
  { cls := 18, slots := #[.int 14], vm := .none },
  { cls := 18, slots := #[.int 15], vm := .none },
  { cls := 18, slots := #[.int 16], vm := .none },
  { cls := 18, slots := #[.int 17], vm := .none },
  { cls := 18, slots := #[.int 18], vm := .none },
  { cls := 18, slots := #[.int 19], vm := .none },
  { cls := 18, slots := #[.int 20], vm := .none },
  { cls := 18, slots := #[.int 21], vm := .none },
  { cls := 18, slots := #[.int 22], vm := .none },
  { cls := 18, slots := #[.int 23], vm := .none },
  { cls := 18, slots := #[.int 24], vm := .none },
  { cls := 18, slots := #[.int 25], vm := .none },
  { cls := 18, slots := #[.int 26], vm := .none },
  { cls := 18, slots := #[.int 27], vm := .none },
  { cls := 18, slots := #[.int 28], vm := .none },
  { cls := 18, slots := #[.int 29], vm := .none },
  { cls := 18, slots := #[.int 30], vm := .none },
  { cls := 18, slots := #[.int 31], vm := .none },
  { cls := 18, slots := #[.int 32], vm := .none },
  { cls := 18, slots := #[.int 33], vm := .none },
  { cls := 18, slots := #[.int 34], vm := .none },
  { cls := 18, slots := #[.int 35], vm := .none },
  { cls := 18, slots := #[.int 36], vm := .none },
  { cls := 18, slots := #[.int 37], vm := .none },
  { cls := 18, slots := #[.int 38], vm := .none },
  { cls := 18, slots := #[.int 39], vm := .none },
  { cls := 18, slots := #[.int 40], vm := .none },
  { cls := 18, slots := #[.int 41], vm := .none },
  { cls := 18, slots := #[.int 42], vm := .none },
  { cls := 18, slots := #[.int 43], vm := .none },
  { cls := 18, slots := #[.int 44], vm := .none },
  { cls := 18, slots := #[.int 45], vm := .none },
  { cls := 18, slots := #[.int 46], vm := .none },
  { cls := 18, slots := #[.int 47], vm := .none },
  { cls := 18, slots := #[.int 48], vm := .none },
  { cls := 18, slots := #[.int 49], vm := .none },
  { cls := 18, slots := #[.int 50], vm := .none },
  { cls := 18, slots := #[.int 51], vm := .none },
  { cls := 18, slots := #[.int 52], vm := .none },
  { cls := 18, slots := #[.int 53], vm := .none },
  { cls := 18, slots := #[.int 54], vm := .none },
  { cls := 18, slots := #[.int 55], vm := .none },
  { cls := 18, slots := #[.int 56], vm := .none },
  { cls := 18, slots := #[.int 57], vm := .none },
  { cls := 18, slots := #[.int 58], vm := .none },
  { cls := 18, slots := #[.int 59], vm := .none },
  { cls := 18, slots := #[.int 60], vm := .none },
  { cls := 18, slots := #[.int 61], vm := .none },
  { cls := 18, slots := #[.int 62], vm := .none },
  { cls := 18, slots := #[.int 63], vm := .none },
  { cls := 18, slots := #[.int 64], vm := .none },
  { cls := 18, slots := #[.int 65], vm := .none },
  { cls := 18, slots := #[.int 66], vm := .none },
  { cls := 18, slots := #[.int 67], vm := .none },
  { cls := 18, slots := #[.int 68], vm := .none },
  { cls := 18, slots := #[.int 69], vm := .none },
  { cls := 18, slots := #[.int 70], vm := .none },
  { cls := 18, slots := #[.int 71], vm := .none },
  { cls := 18, slots := #[.int 72], vm := .none },
  { cls := 18, slots := #[.int 73], vm := .none },
  { cls := 18, slots := #[.int 74], vm := .none },
  { cls := 18, slots := #[.int 75], vm := .none },
  { cls := 18, slots := #[.int 76], vm := .none },
  { cls := 18, slots := #[.int 77], vm := .none },
  { cls := 18, slots := #[.int 78], vm := .none },
  { cls := 18, slots := #[.int 79], vm := .none },
  { cls := 18, slots := #[.int 80], vm := .none },
  { cls := 18, slots := #[.int 81], vm := .none },
  { cls := 18, slots := #[.int 82], vm := .none },
  { cls := 18, slots := #[.int 83], vm := .none },
  { cls := 18, slots := #[.int 84], vm := .none },
  { cls := 18, slots := #[.int 85], vm := .none },
  { cls := 18, slots := #[.int 86], vm := .none },
  { cls := 18, slots := #[.int 87], vm := .none },
  { cls := 18, slots := #[.int 88], vm := .none },
  { cls := 18, slots := #[.int 89], vm := .none },
  { cls := 18, slots := #[.int 90], vm := .none },
  { cls := 18, slots := #[.int 91], vm := .none },
  { cls := 18, slots := #[.int 92], vm := .none },
  { cls := 18, slots := #[.int 93], vm := .none },
  { cls := 18, slots := #[.int 94], vm := .none },
  { cls := 18, slots := #[.int 95], vm := .none },
  { cls := 18, slots := #[.int 96], vm := .none },
  { cls := 18, slots := #[.int 97], vm := .none },
  { cls := 18, slots := #[.int 98], vm := .none },
  { cls := 18, slots := #[.int 99], vm := .none },
  { cls := 18, slots := #[.int 100], vm := .none },
  { cls := 18, slots := #[.int 101], vm := .none },
  { cls := 18, slots := #[.int 102], vm := .none },
  { cls := 18, slots := #[.int 103], vm := .none },
  { cls := 18, slots := #[.int 104], vm := .none },
  { cls := 18, slots := #[.int 105], vm := .none },
  { cls := 18, slots := #[.int 106], vm := .none },
  { cls := 18, slots := #[.int 107], vm := .none },
  { cls := 18, slots := #[.int 108], vm := .none },
  { cls := 18, slots := #[.int 109], vm := .none },
  { cls := 18, slots := #[.int 110], vm := .none },
  { cls := 18, slots := #[.int 111], vm := .none },
  { cls := 18, slots := #[.int 112], vm := .none },
  { cls := 18, slots := #[.int 113], vm := .none },
  { cls := 18, slots := #[.int 114], vm := .none },
  { cls := 18, slots := #[.int 115], vm := .none },
  { cls := 18, slots := #[.int 116], vm := .none },
  { cls := 18, slots := #[.int 117], vm := .none },
  { cls := 18, slots := #[.int 118], vm := .none },
  { cls := 18, slots := #[.int 119], vm := .none },
  { cls := 18, slots := #[.int 120], vm := .none },
  { cls := 18, slots := #[.int 121], vm := .none },
  { cls := 18, slots := #[.int 122], vm := .none },
  { cls := 18, slots := #[.int 123], vm := .none },
  { cls := 18, slots := #[.int 124], vm := .none },
  { cls := 18, slots := #[.int 125], vm := .none },
  { cls := 18, slots := #[.int 126], vm := .none },
  { cls := 18, slots := #[.int 127], vm := .none },
  { cls := 24, slots := #[.long (-128)], vm := .none },
  { cls := 24, slots := #[.long (-127)], vm := .none },
  { cls := 24, slots := #[.long (-126)], vm := .none },
  { cls := 24, slots := #[.long (-125)], vm := .none },
  { cls := 24, slots := #[.long (-124)], vm := .none },
  { cls := 24, slots := #[.long (-123)], vm := .none },
  { cls := 24, slots := #[.long (-122)], vm := .none },
  { cls := 24, slots := #[.long (-121)], vm := .none },
  { cls := 24, slots := #[.long (-120)], vm := .none },
  { cls := 24, slots := #[.long (-119)], vm := .none },
  { cls := 24, slots := #[.long (-118)], vm := .none },
  { cls := 24, slots := #[.long (-117)], vm := .none },
  { cls := 24, slots := #[.long (-116)], vm := .none },
  { cls := 24, slots := #[.long (-115)], vm := .none },
  { cls := 24, slots := #[.long (-114)], vm := .none },
  { cls := 24, slots := #[.long (-113)], vm := .none },
  { cls := 24, slots := #[.long (-112)], vm := .none },
  { cls := 24, slots := #[.long (-111)], vm := .none },
  { cls := 24, slots := #[.long (-110)], vm := .none },
  { cls := 24, slots := #[.long (-109)], vm := .none },
  { cls := 24, slots := #[.long (-108)], vm := .none },
  { cls := 24, slots := #[.long (-107)], vm := .none },
  { cls := 24, slots := #[.long (-106)], vm := .none },
  { cls := 24, slots := #[.long (-105)], vm := .none },
  { cls := 24, slots := #[.long (-104)], vm := .none },
  { cls := 24, slots := #[.long (-103)], vm := .none },
  { cls := 24, slots := #[.long (-102)], vm := .none },
  { cls := 24, slots := #[.long (-101)], vm := .none },
  { cls := 24, slots := #[.long (-100)], vm := .none },
  { cls := 24, slots := #[.long (-99)], vm := .none },
  { cls := 24, slots := #[.long (-98)], vm := .none },
  { cls := 24, slots := #[.long (-97)], vm := .none },
  { cls := 24, slots := #[.long (-96)], vm := .none },
  { cls := 24, slots := #[.long (-95)], vm := .none },
  { cls := 24, slots := #[.long (-94)], vm := .none },
  { cls := 24, slots := #[.long (-93)], vm := .none },
  { cls := 24, slots := #[.long (-92)], vm := .none },
  { cls := 24, slots := #[.long (-91)], vm := .none },
  { cls := 24, slots := #[.long (-90)], vm := .none },
  { cls := 24, slots := #[.long (-89)], vm := .none },
  { cls := 24, slots := #[.long (-88)], vm := .none },
  { cls := 24, slots := #[.long (-87)], vm := .none },
  { cls := 24, slots := #[.long (-86)], vm := .none },
  { cls := 24, slots := #[.long (-85)], vm := .none },
  { cls := 24, slots := #[.long (-84)], vm := .none },
  { cls := 24, slots := #[.long (-83)], vm := .none },
  { cls := 24, slots := #[.long (-82)], vm := .none },
  { cls := 24, slots := #[.long (-81)], vm := .none },
  { cls := 24, slots := #[.long (-80)], vm := .none },
  { cls := 24, slots := #[.long (-79)], vm := .none },
  { cls := 24, slots := #[.long (-78)], vm := .none },
  { cls := 24, slots := #[.long (-77)], vm := .none },
  { cls := 24, slots := #[.long (-76)], vm := .none },
  { cls := 24, slots := #[.long (-75)], vm := .none },
  { cls := 24, slots := #[.long (-74)], vm := .none },
  { cls := 24, slots := #[.long (-73)], vm := .none },
  { cls := 24, slots := #[.long (-72)], vm := .none },
  { cls := 24, slots := #[.long (-71)], vm := .none },
  { cls := 24, slots := #[.long (-70)], vm := .none },
  { cls := 24, slots := #[.long (-69)], vm := .none },
  { cls := 24, slots := #[.long (-68)], vm := .none },
  { cls := 24, slots := #[.long (-67)], vm := .none },
  { cls := 24, slots := #[.long (-66)], vm := .none },
  { cls := 24, slots := #[.long (-65)], vm := .none },
  { cls := 24, slots := #[.long (-64)], vm := .none },
  { cls := 24, slots := #[.long (-63)], vm := .none },
  { cls := 24, slots := #[.long (-62)], vm := .none },
  { cls := 24, slots := #[.long (-61)], vm := .none },
  { cls := 24, slots := #[.long (-60)], vm := .none },
  { cls := 24, slots := #[.long (-59)], vm := .none },
  { cls := 24, slots := #[.long (-58)], vm := .none },
  { cls := 24, slots := #[.long (-57)], vm := .none },
  { cls := 24, slots := #[.long (-56)], vm := .none },
  { cls := 24, slots := #[.long (-55)], vm := .none },
  { cls := 24, slots := #[.long (-54)], vm := .none },
  { cls := 24, slots := #[.long (-53)], vm := .none },
  { cls := 24, slots := #[.long (-52)], vm := .none },
  { cls := 24, slots := #[.long (-51)], vm := .none },
  { cls := 24, slots := #[.long (-50)], vm := .none },
  { cls := 24, slots := #[.long (-49)], vm := .none },
  { cls := 24, slots := #[.long (-48)], vm := .none },
  { cls := 24, slots := #[.long (-47)], vm := .none },
  { cls := 24, slots := #[.long (-46)], vm := .none },
  { cls := 24, slots := #[.long (-45)], vm := .none },
  { cls := 24, slots := #[.long (-44)], vm := .none },
  { cls := 24, slots := #[.long (-43)], vm := .none },
  { cls := 24, slots := #[.long (-42)], vm := .none },
  { cls := 24, slots := #[.long (-41)], vm := .none },
  { cls := 24, slots := #[.long (-40)], vm := .none },
  { cls := 24, slots := #[.long (-39)], vm := .none },
  { cls := 24, slots := #[.long (-38)], vm := .none },
  { cls := 24, slots := #[.long (-37)], vm := .none },
  { cls := 24, slots := #[.long (-36)], vm := .none },
  { cls := 24, slots := #[.long (-35)], vm := .none },
  { cls := 24, slots := #[.long (-34)], vm := .none },
  { cls := 24, slots := #[.long (-33)], vm := .none },
  { cls := 24, slots := #[.long (-32)], vm := .none },
  { cls := 24, slots := #[.long (-31)], vm := .none },
  { cls := 24, slots := #[.long (-30)], vm := .none },
  { cls := 24, slots := #[.long (-29)], vm := .none },
  { cls := 24, slots := #[.long (-28)], vm := .none },
  { cls := 24, slots := #[.long (-27)], vm := .none },
  { cls := 24, slots := #[.long (-26)], vm := .none },
  { cls := 24, slots := #[.long (-25)], vm := .none },
  { cls := 24, slots := #[.long (-24)], vm := .none },
  { cls := 24, slots := #[.long (-23)], vm := .none },
  { cls := 24, slots := #[.long (-22)], vm := .none },
  { cls := 24, slots := #[.long (-21)], vm := .none },
  { cls := 24, slots := #[.long (-20)], vm := .none },
  { cls := 24, slots := #[.long (-19)], vm := .none },
  { cls := 24, slots := #[.long (-18)], vm := .none },
  { cls := 24, slots := #[.long (-17)], vm := .none },
  { cls := 24, slots := #[.long (-16)], vm := .none },
  { cls := 24, slots := #[.long (-15)], vm := .none },
  { cls := 24, slots := #[.long (-14)], vm := .none },
  { cls := 24, slots := #[.long (-13)], vm := .none },
  { cls := 24, slots := #[.long (-12)], vm := .none },
  { cls := 24, slots := #[.long (-11)], vm := .none },
  { cls := 24, slots := #[.long (-10)], vm := .none },
  { cls := 24, slots := #[.long (-9)], vm := .none },
  { cls := 24, slots := #[.long (-8)], vm := .none },
  { cls := 24, slots := #[.long (-7)], vm := .none },
  { cls := 24, slots := #[.long (-6)], vm := .none },
  { cls := 24, slots := #[.long (-5)], vm := .none },
  { cls := 24, slots := #[.long (-4)], vm := .none },
  { cls := 24, slots := #[.long (-3)], vm := .none },
  { cls := 24, slots := #[.long (-2)], vm := .none },
  { cls := 24, slots := #[.long (-1)], vm := .none },
  { cls := 24, slots := #[.long 0], vm := .none },
  { cls := 24, slots := #[.long 1], vm := .none },
  { cls := 24, slots := #[.long 2], vm := .none },
  { cls := 24, slots := #[.long 3], vm := .none },
  { cls := 24, slots := #[.long 4], vm := .none },
  { cls := 24, slots := #[.long 5], vm := .none },
  { cls := 24, slots := #[.long 6], vm := .none },
  { cls := 24, slots := #[.long 7], vm := .none },
  { cls := 24, slots := #[.long 8], vm := .none },
  { cls := 24, slots := #[.long 9], vm := .none },
  { cls := 24, slots := #[.long 10], vm := .none },
  { cls := 24, slots := #[.long 11], vm := .none },
  { cls := 24, slots := #[.long 12], vm := .none },
  { cls := 24, slots := #[.long 13], vm := .none },
  { cls := 24, slots := #[.long 14], vm := .none },
  { cls := 24, slots := #[.long 15], vm := .none },
  { cls := 24, slots := #[.long 16], vm := .none },
  { cls := 24, slots := #[.long 17], vm := .none },
  { cls := 24, slots := #[.long 18], vm := .none },
  { cls := 24, slots := #[.long 19], vm := .none },
  { cls := 24, slots := #[.long 20], vm := .none },
  { cls := 24, slots := #[.long 21], vm := .none },
  { cls := 24, slots := #[.long 22], vm := .none },
  { cls := 24, slots := #[.long 23], vm := .none },
  { cls := 24, slots := #[.long 24], vm := .none },
  { cls := 24, slots := #[.long 25], vm := .none },
  { cls := 24, slots := #[.long 26], vm := .none },
  { cls := 24, slots := #[.long 27], vm := .none },
  { cls := 24, slots := #[.long 28], vm := .none },
  { cls := 24, slots := #[.long 29], vm := .none },
  { cls := 24, slots := #[.long 30], vm := .none },
  { cls := 24, slots := #[.long 31], vm := .none },
  { cls := 24, slots := #[.long 32], vm := .none },
  { cls := 24, slots := #[.long 33], vm := .none },
  { cls := 24, slots := #[.long 34], vm := .none },
  { cls := 24, slots := #[.long 35], vm := .none },
  { cls := 24, slots := #[.long 36], vm := .none },
  { cls := 24, slots := #[.long 37], vm := .none },
  { cls := 24, slots := #[.long 38], vm := .none },
  { cls := 24, slots := #[.long 39], vm := .none },
  { cls := 24, slots := #[.long 40], vm := .none },
  { cls := 24, slots := #[.long 41], vm := .none },
  { cls := 24, slots := #[.long 42], vm := .none },
  { cls := 24, slots := #[.long 43], vm := .none },
  { cls := 24, slots := #[.long 44], vm := .none },
  { cls := 24, slots := #[.long 45], vm := .none },
  { cls := 24, slots := #[.long 46], vm := .none },
  { cls := 24, slots := #[.long 47], vm := .none },
  { cls := 24, slots := #[.long 48], vm := .none },
  { cls := 24, slots := #[.long 49], vm := .none },
  { cls := 24, slots := #[.long 50], vm := .none },
  { cls := 24, slots := #[.long 51], vm := .none },
  { cls := 24, slots := #[.long 52], vm := .none },
  { cls := 24, slots := #[.long 53], vm := .none },
  { cls := 24, slots := #[.long 54], vm := .none },
  { cls := 24, slots := #[.long 55], vm := .none },
  { cls := 24, slots := #[.long 56], vm := .none },
  { cls := 24, slots := #[.long 57], vm := .none },
  { cls := 24, slots := #[.long 58], vm := .none },
  { cls := 24, slots := #[.long 59], vm := .none },
  { cls := 24, slots := #[.long 60], vm := .none },
  { cls := 24, slots := #[.long 61], vm := .none },
  { cls := 24, slots := #[.long 62], vm := .none },
  { cls := 24, slots := #[.long 63], vm := .none },
  { cls := 24, slots := #[.long 64], vm := .none },
  { cls := 24, slots := #[.long 65], vm := .none },
  { cls := 24, slots := #[.long 66], vm := .none },
  { cls := 24, slots := #[.long 67], vm := .none },
  { cls := 24, slots := #[.long 68], vm := .none },
  { cls := 24, slots := #[.long 69], vm := .none },
  { cls := 24, slots := #[.long 70], vm := .none },
  { cls := 24, slots := #[.long 71], vm := .none },
  { cls := 24, slots := #[.long 72], vm := .none },
  { cls := 24, slots := #[.long 73], vm := .none },
  { cls := 24, slots := #[.long 74], vm := .none },
  { cls := 24, slots := #[.long 75], vm := .none },
  { cls := 24, slots := #[.long 76], vm := .none },
  { cls := 24, slots := #[.long 77], vm := .none },
  { cls := 24, slots := #[.long 78], vm := .none },
  { cls := 24, slots := #[.long 79], vm := .none },
  { cls := 24, slots := #[.long 80], vm := .none },
  { cls := 24, slots := #[.long 81], vm := .none },
  { cls := 24, slots := #[.long 82], vm := .none },
  { cls := 24, slots := #[.long 83], vm := .none },
  { cls := 24, slots := #[.long 84], vm := .none },
  { cls := 24, slots := #[.long 85], vm := .none },
  { cls := 24, slots := #[.long 86], vm := .none },
  { cls := 24, slots := #[.long 87], vm := .none },
  { cls := 24, slots := #[.long 88], vm := .none },
  { cls := 24, slots := #[.long 89], vm := .none },
  { cls := 24, slots := #[.long 90], vm := .none },
  { cls := 24, slots := #[.long 91], vm := .none },
  { cls := 24, slots := #[.long 92], vm := .none },
  { cls := 24, slots := #[.long 93], vm := .none },
  { cls := 24, slots := #[.long 94], vm := .none },
  { cls := 24, slots := #[.long 95], vm := .none },
  { cls := 24, slots := #[.long 96], vm := .none },
  { cls := 24, slots := #[.long 97], vm := .none },
  { cls := 24, slots := #[.long 98], vm := .none },
  { cls := 24, slots := #[.long 99], vm := .none },
  { cls := 24, slots := #[.long 100], vm := .none },
  { cls := 24, slots := #[.long 101], vm := .none },
  { cls := 24, slots := #[.long 102], vm := .none },
  { cls := 24, slots := #[.long 103], vm := .none },
  { cls := 24, slots := #[.long 104], vm := .none },
  { cls := 24, slots := #[.long 105], vm := .none },
  { cls := 24, slots := #[.long 106], vm := .none },
  { cls := 24, slots := #[.long 107], vm := .none },
  { cls := 24, slots := #[.long 108], vm := .none },
  { cls := 24, slots := #[.long 109], vm := .none },
  { cls := 24, slots := #[.long 110], vm := .none },
  { cls := 24, slots := #[.long 111], vm := .none },
  { cls := 24, slots := #[.long 112], vm := .none },
  { cls := 24, slots := #[.long 113], vm := .none },
  { cls := 24, slots := #[.long 114], vm := .none },
  { cls := 24, slots := #[.long 115], vm := .none },
  { cls := 24, slots := #[.long 116], vm := .none },
  { cls := 24, slots := #[.long 117], vm := .none },
  { cls := 24, slots := #[.long 118], vm := .none },
  { cls := 24, slots := #[.long 119], vm := .none },
  { cls := 24, slots := #[.long 120], vm := .none },
  { cls := 24, slots := #[.long 121], vm := .none },
  { cls := 24, slots := #[.long 122], vm := .none },
  { cls := 24, slots := #[.long 123], vm := .none },
  { cls := 24, slots := #[.long 124], vm := .none },
  { cls := 24, slots := #[.long 125], vm := .none },
  { cls := 24, slots := #[.long 126], vm := .none },
  { cls := 24, slots := #[.long 127], vm := .none },
  { cls := 38, slots := #[], vm := .none },
  { cls := 38, slots := #[], vm := .none }]
def classes : Array Class := #[k0, k1, k2, k3, k4, k5, k6, k7, k8, k9, k10, k11, k12, k13, k14, k15, k16, k17, k18, k19, k20, k21, k22, k23, k24, k25, k26, k27, k28, k29, k30, k31, k32, k33, k34, k35, k36, k37, k38]
def interned : List (Array UInt16 × Addr) := []
def slotsUsed : Nat := 1046
def theMethod : MethodId := ⟨1, 1⟩
def args0 : Array Value := #[.int 5, .int 5, .long 1, .int 5, .int 5]
def aboutOver (below : List Frame) : State where
  vm := { classes := classes, interned := interned.toArray }
  heap := heap
  slotsUsed := slotsUsed
  threads := #[{ frames := .invoking theMethod args0 :: below }]
def below0 : List Frame := [.native { method := ⟨0, 0⟩, args := #[] }]
def about1 : State := aboutOver below0
def p0 : Program := .bare "" "" ""
def e0 : Env := launch0.env 0 0 0
theorem w_frames : about1.frames = Frame.invoking theMethod args0 :: below0 := rfl
set_option maxRecDepth 65536 in
theorem w_args : argsFit about1.vm theMethod args0 = true := by decide +kernel
set_option maxRecDepth 65536 in
theorem w_heap : heapFits about1 = true := by decide +kernel
set_option maxRecDepth 65536 in
theorem w_runnable : about1.curStatus? = some .runnable := by decide +kernel
set_option maxRecDepth 65536 in
theorem w_alone : about1.alone = true := by decide +kernel
set_option maxRecDepth 65536 in
theorem w_named : about1.methodNamed? x = some theMethod := by decide +kernel
set_option maxRecDepth 65536 in
theorem w_hears : about1.hears theMethod below0 = true := by decide +kernel
set_option maxRecDepth 65536 in
theorem w_ripe : about1.ripe theMethod args0 below0 = true := by decide +kernel
theorem w_running : about1.status = .running := rfl
set_option maxRecDepth 65536 in
theorem w_room : about1.hasRoom e0.platform room_1 = true :=
  launch0.hasRoom_least _ room_1 (by decide +kernel) (by decide +kernel) (by decide +kernel) (by decide +kernel) (by decide +kernel) (by decide +kernel)
theorem allAtoms_all (ts : List Jvm.Cond) (a : Array Jvm.Value) (st : Jvm.State) : (allAtoms ts).before a st = ts.all (fun c => c.before a st) := by
  induction ts with
  | nil => rfl
  | cons c t ih =>
    show (Jvm.Cond.and c (allAtoms t)).before a st = _
    rw [Jvm.Cond.before_and, ih, List.all_cons]
def words1 : List Jvm.Cond := Jvm.Cond.code x code maxLocals ret :: tables_1
/-- a 'code' word, met by the world's own term for the bytes: nothing is compared byte by byte -/
theorem code_word {y : MethodName} {bytes : ByteArray} {mx : Nat} {rt : Option FieldType} {a : Array Value} {s : State} {m : MethodId} {meth : Method} {c : Code} (h1 : s.methodNamed? y = some m) (h2 : s.vm.method? m = some meth) (h3 : meth.code = some c) (h4 : c.code = bytes)
    (h5 : (c.maxLocals == mx && c.exceptionTable.isEmpty && decide (c.maxStack ≤ mostOperands) && decide (meth.sig.returnType = rt) && !meth.locks && decide (parseMethodDescriptor y.desc = some meth.sig)) = true) : (Jvm.Cond.code y bytes mx rt).before a s = true := by
  simp only [Bool.and_eq_true, beq_iff_eq, Bool.not_eq_true', decide_eq_true_eq] at h5
  obtain ⟨⟨⟨⟨⟨g1, g2⟩, g3⟩, g4⟩, g5⟩, g6⟩ := h5
  simp [Cond.before, Cond.holds, Cond.value, h1, h2, h3, h4, g1, g2, g3, g4, g5, g6]
def isCode : Jvm.Cond → Bool
  | .code _ _ _ _ => true
  | _ => false
theorem all_split {L : List Jvm.Cond} {P : Jvm.Cond → Bool} (h1 : L.all (fun c => isCode c || P c) = true) (h2 : ∀ c ∈ L.filter isCode, P c = true) : L.all P = true := by
  refine List.all_eq_true.mpr fun c hc => ?_
  have h := List.all_eq_true.mp h1 c hc
  rcases Bool.eq_false_or_eq_true (isCode c) with hi | hi
  · exact h2 c (List.mem_filter.mpr ⟨hc, hi⟩)
  · simpa [hi] using h
set_option maxRecDepth 65536 in
theorem w_c0 : (Jvm.Cond.code x code maxLocals ret).before args0 about1 = true := code_word (m := ⟨1, 1⟩) (meth := k1m1) (c := k1c1) (by decide +kernel) rfl rfl rfl (by decide +kernel)
set_option maxRecDepth 65536 in
theorem w_c1 : (Jvm.Cond.code ({ cls := "io/invocant/cli/Expression$Value", name := "of", desc := "(Ljava/lang/Object;)Lio/invocant/cli/Expression$Value;" } : Jvm.MethodName) prog_16_method_2_code (1 : Nat) (Option.some (Jvm.ClassFile.FieldType.object "io/invocant/cli/Expression$Value"))).before args0 about1 = true := code_word (m := ⟨3, 1⟩) (meth := k3m1) (c := k3c1) (by decide +kernel) rfl rfl rfl (by decide +kernel)
set_option maxRecDepth 65536 in
theorem w_c2 : (Jvm.Cond.code ({ cls := "io/invocant/cli/Expression$Value", name := "<init>", desc := "(Ljava/lang/Class;Ljava/lang/Object;)V" } : Jvm.MethodName) prog_16_method_1_code (3 : Nat) (Option.none : Option Jvm.ClassFile.FieldType)).before args0 about1 = true := code_word (m := ⟨3, 0⟩) (meth := k3m0) (c := k3c0) (by decide +kernel) rfl rfl rfl (by decide +kernel)
set_option maxRecDepth 65536 in
theorem w_c3 : (Jvm.Cond.code ({ cls := "java/lang/Record", name := "<init>", desc := "()V" } : Jvm.MethodName) jdk_30_method_1_code (1 : Nat) (Option.none : Option Jvm.ClassFile.FieldType)).before args0 about1 = true := code_word (m := ⟨2, 0⟩) (meth := k2m0) (c := k2c0) (by decide +kernel) rfl rfl rfl (by decide +kernel)
set_option maxRecDepth 65536 in
theorem w_c4 : (Jvm.Cond.code ({ cls := "java/lang/Object", name := "<init>", desc := "()V" } : Jvm.MethodName) object_method_1_code (1 : Nat) (Option.none : Option Jvm.ClassFile.FieldType)).before args0 about1 = true := code_word (m := ⟨0, 0⟩) (meth := k0m0) (c := k0c0) (by decide +kernel) rfl rfl rfl (by decide +kernel)
set_option maxRecDepth 65536 in
theorem w_c5 : (Jvm.Cond.code ({ cls := "io/invocant/cli/Expression$Value", name := "value", desc := "()Ljava/lang/Object;" } : Jvm.MethodName) prog_16_method_8_code (1 : Nat) (Option.some (Jvm.ClassFile.FieldType.object "java/lang/Object"))).before args0 about1 = true := code_word (m := ⟨3, 3⟩) (meth := k3m3) (c := k3c3) (by decide +kernel) rfl rfl rfl (by decide +kernel)
set_option maxRecDepth 65536 in
theorem w_c6 : (Jvm.Cond.code ({ cls := "io/invocant/cli/Expression$Value", name := "type", desc := "()Ljava/lang/Class;" } : Jvm.MethodName) prog_16_method_7_code (1 : Nat) (Option.some (Jvm.ClassFile.FieldType.object "java/lang/Class"))).before args0 about1 = true := code_word (m := ⟨3, 2⟩) (meth := k3m2) (c := k3c2) (by decide +kernel) rfl rfl rfl (by decide +kernel)
set_option maxRecDepth 65536 in
theorem w_c7 : (Jvm.Cond.code ({ cls := "java/util/ArrayList", name := "<init>", desc := "()V" } : Jvm.MethodName) jdk_38_method_2_code (1 : Nat) (Option.none : Option Jvm.ClassFile.FieldType)).before args0 about1 = true := code_word (m := ⟨13, 0⟩) (meth := k13m0) (c := k13c0) (by decide +kernel) rfl rfl rfl (by decide +kernel)
set_option maxRecDepth 65536 in
theorem w_c8 : (Jvm.Cond.code ({ cls := "java/util/AbstractList", name := "<init>", desc := "()V" } : Jvm.MethodName) jdk_39_method_1_code (1 : Nat) (Option.none : Option Jvm.ClassFile.FieldType)).before args0 about1 = true := code_word (m := ⟨9, 0⟩) (meth := k9m0) (c := k9c0) (by decide +kernel) rfl rfl rfl (by decide +kernel)
set_option maxRecDepth 65536 in
theorem w_c9 : (Jvm.Cond.code ({ cls := "java/util/AbstractCollection", name := "<init>", desc := "()V" } : Jvm.MethodName) jdk_22_method_1_code (1 : Nat) (Option.none : Option Jvm.ClassFile.FieldType)).before args0 about1 = true := code_word (m := ⟨6, 0⟩) (meth := k6m0) (c := k6c0) (by decide +kernel) rfl rfl rfl (by decide +kernel)
set_option maxRecDepth 65536 in
theorem w_c10 : (Jvm.Cond.code ({ cls := "java/lang/Integer", name := "valueOf", desc := "(I)Ljava/lang/Integer;" } : Jvm.MethodName) jdk_33_method_22_code (1 : Nat) (Option.some (Jvm.ClassFile.FieldType.object "java/lang/Integer"))).before args0 about1 = true := code_word (m := ⟨18, 0⟩) (meth := k18m0) (c := k18c0) (by decide +kernel) rfl rfl rfl (by decide +kernel)
set_option maxRecDepth 65536 in
theorem w_c11 : (Jvm.Cond.code ({ cls := "java/util/ArrayList", name := "add", desc := "(Ljava/lang/Object;)Z" } : Jvm.MethodName) jdk_38_method_25_code (2 : Nat) (Option.some Jvm.ClassFile.FieldType.boolean)).before args0 about1 = true := code_word (m := ⟨13, 4⟩) (meth := k13m4) (c := k13c4) (by decide +kernel) rfl rfl rfl (by decide +kernel)
set_option maxRecDepth 65536 in
theorem w_c12 : (Jvm.Cond.code ({ cls := "java/util/ArrayList", name := "add", desc := "(Ljava/lang/Object;[Ljava/lang/Object;I)V" } : Jvm.MethodName) jdk_38_method_24_code (4 : Nat) (Option.none : Option Jvm.ClassFile.FieldType)).before args0 about1 = true := code_word (m := ⟨13, 3⟩) (meth := k13m3) (c := k13c3) (by decide +kernel) rfl rfl rfl (by decide +kernel)
set_option maxRecDepth 65536 in
theorem w_c13 : (Jvm.Cond.code ({ cls := "java/util/ArrayList", name := "grow", desc := "()[Ljava/lang/Object;" } : Jvm.MethodName) jdk_38_method_7_code (1 : Nat) (Option.some (Jvm.ClassFile.FieldType.array (Jvm.ClassFile.FieldType.object "java/lang/Object")))).before args0 about1 = true := code_word (m := ⟨13, 2⟩) (meth := k13m2) (c := k13c2) (by decide +kernel) rfl rfl rfl (by decide +kernel)
set_option maxRecDepth 65536 in
theorem w_c14 : (Jvm.Cond.code ({ cls := "java/util/ArrayList", name := "grow", desc := "(I)[Ljava/lang/Object;" } : Jvm.MethodName) jdk_38_method_6_code (4 : Nat) (Option.some (Jvm.ClassFile.FieldType.array (Jvm.ClassFile.FieldType.object "java/lang/Object")))).before args0 about1 = true := code_word (m := ⟨13, 1⟩) (meth := k13m1) (c := k13c1) (by decide +kernel) rfl rfl rfl (by decide +kernel)
set_option maxRecDepth 65536 in
theorem w_c15 : (Jvm.Cond.code ({ cls := "java/lang/Math", name := "max", desc := "(II)I" } : Jvm.MethodName) jdk_29_method_65_code (2 : Nat) (Option.some Jvm.ClassFile.FieldType.int)).before args0 about1 = true := code_word (m := ⟨20, 1⟩) (meth := k20m1) (c := k20c1) (by decide +kernel) rfl rfl rfl (by decide +kernel)
set_option maxRecDepth 65536 in
theorem w_c16 : (Jvm.Cond.code ({ cls := "java/lang/String", name := "<init>", desc := "([C)V" } : Jvm.MethodName) jdk_42_method_3_code (2 : Nat) (Option.none : Option Jvm.ClassFile.FieldType)).before args0 about1 = true := code_word (m := ⟨22, 1⟩) (meth := k22m1) (c := k22c1) (by decide +kernel) rfl rfl rfl (by decide +kernel)
set_option maxRecDepth 65536 in
theorem w_c17 : (Jvm.Cond.code ({ cls := "java/lang/String", name := "<init>", desc := "([CIILjava/lang/Void;)V" } : Jvm.MethodName) jdk_42_method_149_code (6 : Nat) (Option.none : Option Jvm.ClassFile.FieldType)).before args0 about1 = true := code_word (m := ⟨22, 2⟩) (meth := k22m2) (c := k22c2) (by decide +kernel) rfl rfl rfl (by decide +kernel)
set_option maxRecDepth 65536 in
theorem w_c18 : (Jvm.Cond.code ({ cls := "java/lang/StringUTF16", name := "compress", desc := "([CII)[B" } : Jvm.MethodName) jdk_52_method_16_code (6 : Nat) (Option.some (Jvm.ClassFile.FieldType.array Jvm.ClassFile.FieldType.byte))).before args0 about1 = true := code_word (m := ⟨23, 2⟩) (meth := k23m2) (c := k23c2) (by decide +kernel) rfl rfl rfl (by decide +kernel)
set_option maxRecDepth 65536 in
theorem w_c19 : (Jvm.Cond.code ({ cls := "java/lang/StringUTF16", name := "compress", desc := "([CI[BII)I" } : Jvm.MethodName) jdk_52_method_21_code (7 : Nat) (Option.some Jvm.ClassFile.FieldType.int)).before args0 about1 = true := code_word (m := ⟨23, 3⟩) (meth := k23m3) (c := k23c3) (by decide +kernel) rfl rfl rfl (by decide +kernel)
set_option maxRecDepth 65536 in
theorem w_c20 : (Jvm.Cond.code ({ cls := "java/lang/StringUTF16", name := "coderFromArrayLen", desc := "([BI)B" } : Jvm.MethodName) jdk_52_method_15_code (2 : Nat) (Option.some Jvm.ClassFile.FieldType.byte)).before args0 about1 = true := code_word (m := ⟨23, 1⟩) (meth := k23m1) (c := k23c1) (by decide +kernel) rfl rfl rfl (by decide +kernel)
set_option maxRecDepth 65536 in
theorem w_c21 : (Jvm.Cond.code ({ cls := "java/lang/Long", name := "valueOf", desc := "(J)Ljava/lang/Long;" } : Jvm.MethodName) jdk_35_method_24_code (3 : Nat) (Option.some (Jvm.ClassFile.FieldType.object "java/lang/Long"))).before args0 about1 = true := code_word (m := ⟨24, 0⟩) (meth := k24m0) (c := k24c0) (by decide +kernel) rfl rfl rfl (by decide +kernel)
set_option maxRecDepth 65536 in
theorem w_c22 : (Jvm.Cond.code ({ cls := "java/lang/Long", name := "<init>", desc := "(J)V" } : Jvm.MethodName) jdk_35_method_26_code (3 : Nat) (Option.none : Option Jvm.ClassFile.FieldType)).before args0 about1 = true := code_word (m := ⟨24, 1⟩) (meth := k24m1) (c := k24c1) (by decide +kernel) rfl rfl rfl (by decide +kernel)
set_option maxRecDepth 65536 in
theorem w_c23 : (Jvm.Cond.code ({ cls := "java/lang/Number", name := "<init>", desc := "()V" } : Jvm.MethodName) jdk_18_method_1_code (1 : Nat) (Option.none : Option Jvm.ClassFile.FieldType)).before args0 about1 = true := code_word (m := ⟨14, 0⟩) (meth := k14m0) (c := k14c0) (by decide +kernel) rfl rfl rfl (by decide +kernel)
set_option maxRecDepth 65536 in
theorem w_c24 : (Jvm.Cond.code ({ cls := "java/lang/Integer", name := "<init>", desc := "(I)V" } : Jvm.MethodName) jdk_33_method_23_code (2 : Nat) (Option.none : Option Jvm.ClassFile.FieldType)).before args0 about1 = true := code_word (m := ⟨18, 1⟩) (meth := k18m1) (c := k18c1) (by decide +kernel) rfl rfl rfl (by decide +kernel)
def codes1 : List Jvm.Cond := [Jvm.Cond.code x code maxLocals ret, Jvm.Cond.code ({ cls := "io/invocant/cli/Expression$Value", name := "of", desc := "(Ljava/lang/Object;)Lio/invocant/cli/Expression$Value;" } : Jvm.MethodName) prog_16_method_2_code (1 : Nat) (Option.some (Jvm.ClassFile.FieldType.object "io/invocant/cli/Expression$Value")), Jvm.Cond.code ({ cls := "io/invocant/cli/Expression$Value", name := "<init>", desc := "(Ljava/lang/Class;Ljava/lang/Object;)V" } : Jvm.MethodName) prog_16_method_1_code (3 : Nat) (Option.none : Option Jvm.ClassFile.FieldType), Jvm.Cond.code ({ cls := "java/lang/Record", name := "<init>", desc := "()V" } : Jvm.MethodName) jdk_30_method_1_code (1 : Nat) (Option.none : Option Jvm.ClassFile.FieldType), Jvm.Cond.code ({ cls := "java/lang/Object", name := "<init>", desc := "()V" } : Jvm.MethodName) object_method_1_code (1 : Nat) (Option.none : Option Jvm.ClassFile.FieldType), Jvm.Cond.code ({ cls := "io/invocant/cli/Expression$Value", name := "value", desc := "()Ljava/lang/Object;" } : Jvm.MethodName) prog_16_method_8_code (1 : Nat) (Option.some (Jvm.ClassFile.FieldType.object "java/lang/Object")), Jvm.Cond.code ({ cls := "io/invocant/cli/Expression$Value", name := "type", desc := "()Ljava/lang/Class;" } : Jvm.MethodName) prog_16_method_7_code (1 : Nat) (Option.some (Jvm.ClassFile.FieldType.object "java/lang/Class")), Jvm.Cond.code ({ cls := "java/util/ArrayList", name := "<init>", desc := "()V" } : Jvm.MethodName) jdk_38_method_2_code (1 : Nat) (Option.none : Option Jvm.ClassFile.FieldType), Jvm.Cond.code ({ cls := "java/util/AbstractList", name := "<init>", desc := "()V" } : Jvm.MethodName) jdk_39_method_1_code (1 : Nat) (Option.none : Option Jvm.ClassFile.FieldType), Jvm.Cond.code ({ cls := "java/util/AbstractCollection", name := "<init>", desc := "()V" } : Jvm.MethodName) jdk_22_method_1_code (1 : Nat) (Option.none : Option Jvm.ClassFile.FieldType), Jvm.Cond.code ({ cls := "java/lang/Integer", name := "valueOf", desc := "(I)Ljava/lang/Integer;" } : Jvm.MethodName) jdk_33_method_22_code (1 : Nat) (Option.some (Jvm.ClassFile.FieldType.object "java/lang/Integer")), Jvm.Cond.code ({ cls := "java/util/ArrayList", name := "add", desc := "(Ljava/lang/Object;)Z" } : Jvm.MethodName) jdk_38_method_25_code (2 : Nat) (Option.some Jvm.ClassFile.FieldType.boolean), Jvm.Cond.code ({ cls := "java/util/ArrayList", name := "add", desc := "(Ljava/lang/Object;[Ljava/lang/Object;I)V" } : Jvm.MethodName) jdk_38_method_24_code (4 : Nat) (Option.none : Option Jvm.ClassFile.FieldType), Jvm.Cond.code ({ cls := "java/util/ArrayList", name := "grow", desc := "()[Ljava/lang/Object;" } : Jvm.MethodName) jdk_38_method_7_code (1 : Nat) (Option.some (Jvm.ClassFile.FieldType.array (Jvm.ClassFile.FieldType.object "java/lang/Object"))), Jvm.Cond.code ({ cls := "java/util/ArrayList", name := "grow", desc := "(I)[Ljava/lang/Object;" } : Jvm.MethodName) jdk_38_method_6_code (4 : Nat) (Option.some (Jvm.ClassFile.FieldType.array (Jvm.ClassFile.FieldType.object "java/lang/Object"))), Jvm.Cond.code ({ cls := "java/lang/Math", name := "max", desc := "(II)I" } : Jvm.MethodName) jdk_29_method_65_code (2 : Nat) (Option.some Jvm.ClassFile.FieldType.int), Jvm.Cond.code ({ cls := "java/lang/String", name := "<init>", desc := "([C)V" } : Jvm.MethodName) jdk_42_method_3_code (2 : Nat) (Option.none : Option Jvm.ClassFile.FieldType), Jvm.Cond.code ({ cls := "java/lang/String", name := "<init>", desc := "([CIILjava/lang/Void;)V" } : Jvm.MethodName) jdk_42_method_149_code (6 : Nat) (Option.none : Option Jvm.ClassFile.FieldType), Jvm.Cond.code ({ cls := "java/lang/StringUTF16", name := "compress", desc := "([CII)[B" } : Jvm.MethodName) jdk_52_method_16_code (6 : Nat) (Option.some (Jvm.ClassFile.FieldType.array Jvm.ClassFile.FieldType.byte)), Jvm.Cond.code ({ cls := "java/lang/StringUTF16", name := "compress", desc := "([CI[BII)I" } : Jvm.MethodName) jdk_52_method_21_code (7 : Nat) (Option.some Jvm.ClassFile.FieldType.int), Jvm.Cond.code ({ cls := "java/lang/StringUTF16", name := "coderFromArrayLen", desc := "([BI)B" } : Jvm.MethodName) jdk_52_method_15_code (2 : Nat) (Option.some Jvm.ClassFile.FieldType.byte), Jvm.Cond.code ({ cls := "java/lang/Long", name := "valueOf", desc := "(J)Ljava/lang/Long;" } : Jvm.MethodName) jdk_35_method_24_code (3 : Nat) (Option.some (Jvm.ClassFile.FieldType.object "java/lang/Long")), Jvm.Cond.code ({ cls := "java/lang/Long", name := "<init>", desc := "(J)V" } : Jvm.MethodName) jdk_35_method_26_code (3 : Nat) (Option.none : Option Jvm.ClassFile.FieldType), Jvm.Cond.code ({ cls := "java/lang/Number", name := "<init>", desc := "()V" } : Jvm.MethodName) jdk_18_method_1_code (1 : Nat) (Option.none : Option Jvm.ClassFile.FieldType), Jvm.Cond.code ({ cls := "java/lang/Integer", name := "<init>", desc := "(I)V" } : Jvm.MethodName) jdk_33_method_23_code (2 : Nat) (Option.none : Option Jvm.ClassFile.FieldType)]
set_option maxRecDepth 65536 in
theorem codes_eq : words1.filter isCode = codes1 := rfl
theorem w_codes : ∀ c ∈ words1.filter isCode, c.before args0 about1 = true := by
  rw [codes_eq]
  intro c hc
  simp only [codes1, List.mem_cons, List.not_mem_nil, or_false] at hc
  rcases hc with rfl | rfl | rfl | rfl | rfl | rfl | rfl | rfl | rfl | rfl | rfl | rfl | rfl | rfl | rfl | rfl | rfl | rfl | rfl | rfl | rfl | rfl | rfl | rfl | rfl
  · exact w_c0
  · exact w_c1
  · exact w_c2
  · exact w_c3
  · exact w_c4
  · exact w_c5
  · exact w_c6
  · exact w_c7
  · exact w_c8
  · exact w_c9
  · exact w_c10
  · exact w_c11
  · exact w_c12
  · exact w_c13
  · exact w_c14
  · exact w_c15
  · exact w_c16
  · exact w_c17
  · exact w_c18
  · exact w_c19
  · exact w_c20
  · exact w_c21
  · exact w_c22
  · exact w_c23
  · exact w_c24
set_option maxRecDepth 65536 in
theorem w_t1 : (words1.take 24).all (fun c => isCode c || c.before args0 about1) = true := by decide +kernel
set_option maxRecDepth 65536 in
theorem w_t2 : ((words1.drop 24).take 24).all (fun c => isCode c || c.before args0 about1) = true := by decide +kernel
set_option maxRecDepth 65536 in
theorem w_t3 : (((words1.drop 24).drop 24).take 24).all (fun c => isCode c || c.before args0 about1) = true := by decide +kernel
set_option maxRecDepth 65536 in
theorem w_t4 : ((((words1.drop 24).drop 24).drop 24).take 24).all (fun c => isCode c || c.before args0 about1) = true := by decide +kernel
set_option maxRecDepth 65536 in
theorem w_t5 : (((((words1.drop 24).drop 24).drop 24).drop 24).take 24).all (fun c => isCode c || c.before args0 about1) = true := by decide +kernel
set_option maxRecDepth 65536 in
theorem w_t6 : ((((((words1.drop 24).drop 24).drop 24).drop 24).drop 24).take 24).all (fun c => isCode c || c.before args0 about1) = true := by decide +kernel
set_option maxRecDepth 65536 in
theorem w_t7 : (((((((words1.drop 24).drop 24).drop 24).drop 24).drop 24).drop 24).take 24).all (fun c => isCode c || c.before args0 about1) = true := by decide +kernel
set_option maxRecDepth 65536 in
theorem w_t8 : (((((((words1.drop 24).drop 24).drop 24).drop 24).drop 24).drop 24).drop 24).all (fun c => isCode c || c.before args0 about1) = true := by decide +kernel
theorem w_tables : (allAtoms (Jvm.Cond.code x code maxLocals ret :: tables_1)).before args0 about1 = true := by
  rw [allAtoms_all]
  show words1.all (fun c => c.before args0 about1) = true
  refine all_split ?_ w_codes
  rw [← List.take_append_drop 24 words1, List.all_append, w_t1, ← List.take_append_drop 24 (words1.drop 24), List.all_append, w_t2, ← List.take_append_drop 24 ((words1.drop 24).drop 24), List.all_append, w_t3, ← List.take_append_drop 24 (((words1.drop 24).drop 24).drop 24), List.all_append, w_t4, ← List.take_append_drop 24 ((((words1.drop 24).drop 24).drop 24).drop 24), List.all_append, w_t5, ← List.take_append_drop 24 (((((words1.drop 24).drop 24).drop 24).drop 24).drop 24), List.all_append, w_t6, ← List.take_append_drop 24 ((((((words1.drop 24).drop 24).drop 24).drop 24).drop 24).drop 24), List.all_append, w_t7, w_t8]
  rfl
set_option maxRecDepth 65536 in
theorem w_rest : rest_1_c.before args0 about1 = true := by decide +kernel
set_option maxRecDepth 65536 in
theorem w_case : (Jvm.Cond.and given_1 narrow_1).before args0 about1 = true := by decide +kernel
theorem w_applies : (headSpec (Jvm.Cond.code x code maxLocals ret :: tables_1) room_1).applies x e0.platform about1 = true :=
  (Spec.applies_iff w_frames).mpr ⟨w_running, w_runnable, w_alone, w_named, w_hears, w_ripe, w_room, w_tables⟩
set_option maxRecDepth 200000 in
theorem atStart : AtStart classFile x code maxLocals ret World_1 tables_1 room_1 Calls_1 rest_1 Pre_1 launch0 p0 e0 about1 theMethod args0 below0 :=
  ⟨lists_1, trivial, launch0.admits_env _ _ _, launch0.least_env, fairChoices_fair.cas, fairChoices_fair.clock, w_frames, w_args, w_heap, w_applies, ⟨⟨13, k13, 5, by decide +kernel, rfl, rfl, _, rfl, rfl⟩, ⟨⟨22, k22, 6, by decide +kernel, rfl, rfl, _, rfl, rfl⟩, ⟨⟨24, k24, 7, by decide +kernel, rfl, rfl, _, rfl, rfl⟩, ⟨⟨18, k18, 8, by decide +kernel, rfl, rfl, _, rfl, rfl⟩, ⟨⟨35, k35, 9, by decide +kernel, rfl, rfl, _, rfl, rfl⟩, trivial⟩⟩⟩⟩⟩, w_rest, w_case⟩
end start1
theorem witness_1 : WitnessClaimed_1 := ⟨start1.p0, start1.e0, start1.about1, start1.theMethod, start1.args0, start1.below0, start1.atStart⟩
end Jvm.Pilot.@@N@@
