import JvmDerived
import JvmDerived.Pilot.@@N@@Statement
import JvmDerived.Pilot.@@N@@Code
set_option linter.unusedVariables false
set_option linter.unusedSimpArgs false

namespace Jvm.Pilot.@@N@@
open Jvm Jvm.ClassFile Sem Op Lib Jvm.Free Jvm.Stand Jvm.LawKit Jvm.RoadKit Bundle Jvm.Pilot.@@N@@.Jvm.D
section Kit
variable {p : Program} {l : Launch} {e : Env} {R : Room} {s : State} {m : MethodId} {args : Array Value} {below : List Frame} {meth : Method} {c : Code} {T : State} {locs : List Loc} {cells slots : Nat} {Z : State} {a0 : Array Value} {bc : ByteArray} {ml : Nat} {own nm : String} {rt : Option FieldType} {Q : Option Value → Heap → List Loc → Prop} {kC kS pc pc' : Nat} {Ls : Array Slot} {S : List Value} {h : Heap}
def Dec (b : ByteArray) (pc : Nat) (i : Instr) (n pc' : Nat) : Prop := decode b pc = .ok (i, n) ∧ pc' = pc + n
def DecJ (b : ByteArray) (pc : Nat) (i : Instr) (o : Int) (tgt nxt : Nat) : Prop := decode b pc = .ok (i, 3) ∧ 0 ≤ (pc : Int) + o ∧ ((pc : Int) + o).toNat = tgt ∧ nxt = pc + 3
def Cur (p : Program) (l : Launch) (e : Env) (s : State) (m : MethodId) (meth : Method) (c : Code) (Z : State) (bc : ByteArray) (ml : Nat) (own nm : String) (rt : Option FieldType) : Prop :=
  p.tables.exec = Jvm.exec ∧ Z.Warmed39 s.vm ∧ c.code = bc ∧ c.maxLocals = ml ∧ s.vm.findClass own = some m.cls ∧ meth.sig.returnType = rt ∧ meth.locks = false ∧ meth.name = nm
def Go (p : Program) (e : Env) (below : List Frame) (s : State) (Q : Option Value → Heap → List Loc → Prop) (kC kS : Nat) (T : State) (f : JFrame) : Prop :=
  ∃ s₂ o, Steps p.tables e below (T.setTop f) s₂ ∧ s₂.status = .running ∧ Ended s₂ below o ∧ ∃ v L, o = .returned v ∧ Q v s₂.heap L ∧ FrameEnd s o s₂ L kC kS
theorem Go.step {T T' : State} {f f' : JFrame} (st : ∀ t, Steps p.tables e below (T'.setTop f') t → Steps p.tables e below (T.setTop f) t) (g : Go p e below s Q kC kS T' f') : Go p e below s Q kC kS T f := by
  obtain ⟨s₂, o, h1, r⟩ := g; exact ⟨s₂, o, st _ h1, r⟩
theorem Go.cast {f f' : JFrame} (q : f = f') (g : Go p e below s Q kC kS T f') : Go p e below s Q kC kS T f := q ▸ g
theorem met_of {y : MethodName} {rm : Room} {as' : Array Value} {h0 : Heap} {ws : List Jvm.Cond} {bytes : ByteArray} {maxL : Nat} {ret : Option FieldType} (hpl : plainFor y = true)
    (body : ∀ {p : Program} {e : Env} {s : State} {m : MethodId} {below : List Frame} {meth : Method} {c : Code} {T : State}, Cur p l e s m meth c Z bytes maxL y.cls y.name ret → Stand p l e rm s m as' below meth c T [] 0 0 → T.heap = h0 → Go p e below s Q rm.cells rm.slots T (entryFrame m as' maxL)) :
    MetFree l y (head1 (Jvm.Cond.code y bytes maxL ret :: ws) rm) (fun a U => a = as' ∧ Z.Warmed39 U.vm ∧ U.heap = h0) (fun _ _ _ _ _ => True) (fun _ U o U' => ∃ v L, o = .returned v ∧ Q v U'.heap L ∧ FrameEnd U o U' L rm.cells rm.slots) := by
  refine MetFree.of_bodySF hpl hisR ?_
  intro p e s m args below meth c s₁ Bd hml0 hP hK
  obtain ⟨rfl, hZ, hh⟩ := hP
  exact body ⟨Bd.exec, hZ, Bd.bytes, hml0, findClass_of_methodNamed Bd.named, Bd.returns, Bd.notSynchronized, (name_of_methodNamed Bd.named Bd.method).1⟩ (Stand.of_body Bd) (by rw [← hh, Bd.state]; rfl)
theorem wiloadN (C : Cur p l e s m meth c Z bc ml own nm rt) (X : Stand p l e R s m args below meth c T locs cells slots) {k : Fin 4} {v : Int32} (hd : Dec bc pc (.iload_n k) 1 pc') (hl : Ls[k.val]? = some (.val (.int v))) (g : Go p e below s Q kC kS T (mkF m pc' Ls (.int v :: S))) : Go p e below s Q kC kS T (mkF m pc Ls S) :=
  Go.step (fun _ k => XS.iloadN X.here C.1 rfl (hb C.2.2.1 hd.1) hl k) (by rw [hd.2] at g; exact g)
theorem wiload (C : Cur p l e s m meth c Z bc ml own nm rt) (X : Stand p l e R s m args below meth c T locs cells slots) {k : Nat} {v : Int32} (hd : Dec bc pc (.iload k) 2 pc') (hl : Ls[k]? = some (.val (.int v))) (g : Go p e below s Q kC kS T (mkF m pc' Ls (.int v :: S))) : Go p e below s Q kC kS T (mkF m pc Ls S) :=
  Go.step (fun _ k => XS.iload X.here C.1 rfl (hb C.2.2.1 hd.1) hl k) (by rw [hd.2] at g; exact g)
theorem wistoreN (C : Cur p l e s m meth c Z bc ml own nm rt) (X : Stand p l e R s m args below meth c T locs cells slots) {k : Fin 4} {v : Int32} (hd : Dec bc pc (.istore_n k) 1 pc') (l' : Array Slot) (hl : storeLocals Ls k.val (.int v) = some l') (g : Go p e below s Q kC kS T (mkF m pc' l' S)) : Go p e below s Q kC kS T (mkF m pc Ls (.int v :: S)) :=
  Go.step (fun _ k => XS.istoreN X.here C.1 rfl (hb C.2.2.1 hd.1) rfl hl k) (by rw [hd.2] at g; exact g)
theorem wistore (C : Cur p l e s m meth c Z bc ml own nm rt) (X : Stand p l e R s m args below meth c T locs cells slots) {k : Nat} {v : Int32} (hd : Dec bc pc (.istore k) 2 pc') (l' : Array Slot) (hl : storeLocals Ls k (.int v) = some l') (g : Go p e below s Q kC kS T (mkF m pc' l' S)) : Go p e below s Q kC kS T (mkF m pc Ls (.int v :: S)) :=
  Go.step (fun _ k => XS.istore X.here C.1 rfl (hb C.2.2.1 hd.1) rfl hl k) (by rw [hd.2] at g; exact g)
theorem wlloadN (C : Cur p l e s m meth c Z bc ml own nm rt) (X : Stand p l e R s m args below meth c T locs cells slots) {k : Fin 4} {v : Int64} (hd : Dec bc pc (.lload_n k) 1 pc') (hl : Ls[k.val]? = some (.val (.long v))) (g : Go p e below s Q kC kS T (mkF m pc' Ls (.long v :: S))) : Go p e below s Q kC kS T (mkF m pc Ls S) :=
  Go.step (fun _ k => XS.lloadN X.here C.1 rfl (hb C.2.2.1 hd.1) hl k) (by rw [hd.2] at g; exact g)
theorem wlload (C : Cur p l e s m meth c Z bc ml own nm rt) (X : Stand p l e R s m args below meth c T locs cells slots) {k : Nat} {v : Int64} (hd : Dec bc pc (.lload k) 2 pc') (hl : Ls[k]? = some (.val (.long v))) (g : Go p e below s Q kC kS T (mkF m pc' Ls (.long v :: S))) : Go p e below s Q kC kS T (mkF m pc Ls S) :=
  Go.step (fun _ k => XS.lload X.here C.1 rfl (hb C.2.2.1 hd.1) hl k) (by rw [hd.2] at g; exact g)
theorem wlstoreN (C : Cur p l e s m meth c Z bc ml own nm rt) (X : Stand p l e R s m args below meth c T locs cells slots) {k : Fin 4} {v : Int64} (hd : Dec bc pc (.lstore_n k) 1 pc') (l' : Array Slot) (hl : storeLocals Ls k.val (.long v) = some l') (g : Go p e below s Q kC kS T (mkF m pc' l' S)) : Go p e below s Q kC kS T (mkF m pc Ls (.long v :: S)) :=
  Go.step (fun _ k => XS.lstoreN X.here C.1 rfl (hb C.2.2.1 hd.1) rfl hl k) (by rw [hd.2] at g; exact g)
theorem wlstore (C : Cur p l e s m meth c Z bc ml own nm rt) (X : Stand p l e R s m args below meth c T locs cells slots) {k : Nat} {v : Int64} (hd : Dec bc pc (.lstore k) 2 pc') (l' : Array Slot) (hl : storeLocals Ls k (.long v) = some l') (g : Go p e below s Q kC kS T (mkF m pc' l' S)) : Go p e below s Q kC kS T (mkF m pc Ls (.long v :: S)) :=
  Go.step (fun _ k => XS.lstore X.here C.1 rfl (hb C.2.2.1 hd.1) rfl hl k) (by rw [hd.2] at g; exact g)
theorem wdloadN (C : Cur p l e s m meth c Z bc ml own nm rt) (X : Stand p l e R s m args below meth c T locs cells slots) {k : Fin 4} {v : UInt64} (hd : Dec bc pc (.dload_n k) 1 pc') (hl : Ls[k.val]? = some (.val (.double v))) (g : Go p e below s Q kC kS T (mkF m pc' Ls (.double v :: S))) : Go p e below s Q kC kS T (mkF m pc Ls S) :=
  Go.step (fun _ k => XS.dloadN X.here C.1 rfl (hb C.2.2.1 hd.1) hl k) (by rw [hd.2] at g; exact g)
theorem wdload (C : Cur p l e s m meth c Z bc ml own nm rt) (X : Stand p l e R s m args below meth c T locs cells slots) {k : Nat} {v : UInt64} (hd : Dec bc pc (.dload k) 2 pc') (hl : Ls[k]? = some (.val (.double v))) (g : Go p e below s Q kC kS T (mkF m pc' Ls (.double v :: S))) : Go p e below s Q kC kS T (mkF m pc Ls S) :=
  Go.step (fun _ k => XS.dload X.here C.1 rfl (hb C.2.2.1 hd.1) hl k) (by rw [hd.2] at g; exact g)
theorem wdstoreN (C : Cur p l e s m meth c Z bc ml own nm rt) (X : Stand p l e R s m args below meth c T locs cells slots) {k : Fin 4} {v : UInt64} (hd : Dec bc pc (.dstore_n k) 1 pc') (l' : Array Slot) (hl : storeLocals Ls k.val (.double v) = some l') (g : Go p e below s Q kC kS T (mkF m pc' l' S)) : Go p e below s Q kC kS T (mkF m pc Ls (.double v :: S)) :=
  Go.step (fun _ k => XS.dstoreN X.here C.1 rfl (hb C.2.2.1 hd.1) rfl hl k) (by rw [hd.2] at g; exact g)
theorem wdstore (C : Cur p l e s m meth c Z bc ml own nm rt) (X : Stand p l e R s m args below meth c T locs cells slots) {k : Nat} {v : UInt64} (hd : Dec bc pc (.dstore k) 2 pc') (l' : Array Slot) (hl : storeLocals Ls k (.double v) = some l') (g : Go p e below s Q kC kS T (mkF m pc' l' S)) : Go p e below s Q kC kS T (mkF m pc Ls (.double v :: S)) :=
  Go.step (fun _ k => XS.dstore X.here C.1 rfl (hb C.2.2.1 hd.1) rfl hl k) (by rw [hd.2] at g; exact g)
theorem waloadN (C : Cur p l e s m meth c Z bc ml own nm rt) (X : Stand p l e R s m args below meth c T locs cells slots) {k : Fin 4} {v : Value} (hd : Dec bc pc (.aload_n k) 1 pc') (hl : Ls[k.val]? = some (.val v)) (hv : v.isRef = true) (g : Go p e below s Q kC kS T (mkF m pc' Ls (v :: S))) : Go p e below s Q kC kS T (mkF m pc Ls S) :=
  Go.step (fun _ k => XS.aloadN X.here C.1 rfl (hb C.2.2.1 hd.1) hl hv k) (by rw [hd.2] at g; exact g)
theorem waload (C : Cur p l e s m meth c Z bc ml own nm rt) (X : Stand p l e R s m args below meth c T locs cells slots) {k : Nat} {v : Value} (hd : Dec bc pc (.aload k) 2 pc') (hl : Ls[k]? = some (.val v)) (hv : v.isRef = true) (g : Go p e below s Q kC kS T (mkF m pc' Ls (v :: S))) : Go p e below s Q kC kS T (mkF m pc Ls S) :=
  Go.step (fun _ k => XS.aload X.here C.1 rfl (hb C.2.2.1 hd.1) hl hv k) (by rw [hd.2] at g; exact g)
theorem wastoreN (C : Cur p l e s m meth c Z bc ml own nm rt) (X : Stand p l e R s m args below meth c T locs cells slots) {k : Fin 4} {v : Value} (hd : Dec bc pc (.astore_n k) 1 pc') (l' : Array Slot) (hv : v.isRef = true) (hl : storeLocals Ls k.val v = some l') (g : Go p e below s Q kC kS T (mkF m pc' l' S)) : Go p e below s Q kC kS T (mkF m pc Ls (v :: S)) :=
  Go.step (fun _ k => XS.astoreN X.here C.1 rfl (hb C.2.2.1 hd.1) rfl hv hl k) (by rw [hd.2] at g; exact g)
theorem wastore (C : Cur p l e s m meth c Z bc ml own nm rt) (X : Stand p l e R s m args below meth c T locs cells slots) {k : Nat} {v : Value} (hd : Dec bc pc (.astore k) 2 pc') (l' : Array Slot) (hv : v.isRef = true) (hl : storeLocals Ls k v = some l') (g : Go p e below s Q kC kS T (mkF m pc' l' S)) : Go p e below s Q kC kS T (mkF m pc Ls (v :: S)) :=
  Go.step (fun _ k => XS.astore X.here C.1 rfl (hb C.2.2.1 hd.1) rfl hv hl k) (by rw [hd.2] at g; exact g)
theorem wiconst (C : Cur p l e s m meth c Z bc ml own nm rt) (X : Stand p l e R s m args below meth c T locs cells slots) {i : Int} (hd : Dec bc pc (.iconst i) 1 pc') (z : Int32) (hz : Int32.ofInt i = z) (g : Go p e below s Q kC kS T (mkF m pc' Ls (.int z :: S))) : Go p e below s Q kC kS T (mkF m pc Ls S) :=
  Go.step (fun _ k => XS.iconst X.here C.1 rfl (hb C.2.2.1 hd.1) (by rw [hz]; exact k)) (by rw [hd.2] at g; exact g)
theorem wbipush (C : Cur p l e s m meth c Z bc ml own nm rt) (X : Stand p l e R s m args below meth c T locs cells slots) {i : Int} (hd : Dec bc pc (.bipush i) 2 pc') (z : Int32) (hz : (Int8.ofInt i).toInt32 = z) (g : Go p e below s Q kC kS T (mkF m pc' Ls (.int z :: S))) : Go p e below s Q kC kS T (mkF m pc Ls S) :=
  Go.step (fun _ k => XS.bipush X.here C.1 rfl (hb C.2.2.1 hd.1) (by rw [hz]; exact k)) (by rw [hd.2] at g; exact g)
theorem wsipush (C : Cur p l e s m meth c Z bc ml own nm rt) (X : Stand p l e R s m args below meth c T locs cells slots) {i : Int} (hd : Dec bc pc (.sipush i) 3 pc') (z : Int32) (hz : (Int16.ofInt i).toInt32 = z) (g : Go p e below s Q kC kS T (mkF m pc' Ls (.int z :: S))) : Go p e below s Q kC kS T (mkF m pc Ls S) :=
  Go.step (fun _ k => XS.sipush X.here C.1 rfl (hb C.2.2.1 hd.1) (by rw [hz]; exact k)) (by rw [hd.2] at g; exact g)
theorem wlconst0 (C : Cur p l e s m meth c Z bc ml own nm rt) (X : Stand p l e R s m args below meth c T locs cells slots) (hd : Dec bc pc (.lconst 0) 1 pc') (g : Go p e below s Q kC kS T (mkF m pc' Ls (.long 0 :: S))) : Go p e below s Q kC kS T (mkF m pc Ls S) :=
  Go.step (fun _ k => XS.lconst X.here C.1 rfl (hb C.2.2.1 hd.1) k) (by rw [hd.2] at g; exact g)
theorem wlconst1 (C : Cur p l e s m meth c Z bc ml own nm rt) (X : Stand p l e R s m args below meth c T locs cells slots) (hd : Dec bc pc (.lconst 1) 1 pc') (g : Go p e below s Q kC kS T (mkF m pc' Ls (.long 1 :: S))) : Go p e below s Q kC kS T (mkF m pc Ls S) :=
  Go.step (fun _ k => XS.lconst X.here C.1 rfl (hb C.2.2.1 hd.1) k) (by rw [hd.2] at g; exact g)
theorem wdconst0 (C : Cur p l e s m meth c Z bc ml own nm rt) (X : Stand p l e R s m args below meth c T locs cells slots) (hd : Dec bc pc (.dconst 0) 1 pc') (g : Go p e below s Q kC kS T (mkF m pc' Ls (.double FP.dconst0 :: S))) : Go p e below s Q kC kS T (mkF m pc Ls S) :=
  Go.step (fun _ k => XS.dconst0 X.here C.1 rfl (hb C.2.2.1 hd.1) rfl k) (by rw [hd.2] at g; exact g)
theorem wdconst1 (C : Cur p l e s m meth c Z bc ml own nm rt) (X : Stand p l e R s m args below meth c T locs cells slots) (hd : Dec bc pc (.dconst 1) 1 pc') (g : Go p e below s Q kC kS T (mkF m pc' Ls (.double FP.dconst1 :: S))) : Go p e below s Q kC kS T (mkF m pc Ls S) :=
  Go.step (fun _ k => XS.dconst1 X.here C.1 rfl (hb C.2.2.1 hd.1) rfl k) (by rw [hd.2] at g; exact g)
theorem wnull (C : Cur p l e s m meth c Z bc ml own nm rt) (X : Stand p l e R s m args below meth c T locs cells slots) (hd : Dec bc pc (.aconst_null) 1 pc') (g : Go p e below s Q kC kS T (mkF m pc' Ls (.null :: S))) : Go p e below s Q kC kS T (mkF m pc Ls S) :=
  Go.step (fun _ k => XS.aconstNull X.here C.1 rfl (hb C.2.2.1 hd.1) k) (by rw [hd.2] at g; exact g)
theorem wiadd (C : Cur p l e s m meth c Z bc ml own nm rt) (X : Stand p l e R s m args below meth c T locs cells slots) {x y : Int32} (hd : Dec bc pc (.iadd) 1 pc') (g : Go p e below s Q kC kS T (mkF m pc' Ls (.int (x + y) :: S))) : Go p e below s Q kC kS T (mkF m pc Ls (.int y :: .int x :: S)) :=
  Go.step (fun _ k => XS.iadd X.here C.1 rfl (hb C.2.2.1 hd.1) rfl k) (by rw [hd.2] at g; exact g)
theorem wisub (C : Cur p l e s m meth c Z bc ml own nm rt) (X : Stand p l e R s m args below meth c T locs cells slots) {x y : Int32} (hd : Dec bc pc (.isub) 1 pc') (g : Go p e below s Q kC kS T (mkF m pc' Ls (.int (x - y) :: S))) : Go p e below s Q kC kS T (mkF m pc Ls (.int y :: .int x :: S)) :=
  Go.step (fun _ k => XS.isub X.here C.1 rfl (hb C.2.2.1 hd.1) rfl k) (by rw [hd.2] at g; exact g)
theorem wimul (C : Cur p l e s m meth c Z bc ml own nm rt) (X : Stand p l e R s m args below meth c T locs cells slots) {x y : Int32} (hd : Dec bc pc (.imul) 1 pc') (g : Go p e below s Q kC kS T (mkF m pc' Ls (.int (x * y) :: S))) : Go p e below s Q kC kS T (mkF m pc Ls (.int y :: .int x :: S)) :=
  Go.step (fun _ k => XS.imul X.here C.1 rfl (hb C.2.2.1 hd.1) rfl k) (by rw [hd.2] at g; exact g)
theorem wiand (C : Cur p l e s m meth c Z bc ml own nm rt) (X : Stand p l e R s m args below meth c T locs cells slots) {x y : Int32} (hd : Dec bc pc (.iand) 1 pc') (g : Go p e below s Q kC kS T (mkF m pc' Ls (.int (x &&& y) :: S))) : Go p e below s Q kC kS T (mkF m pc Ls (.int y :: .int x :: S)) :=
  Go.step (fun _ k => XS.iand X.here C.1 rfl (hb C.2.2.1 hd.1) rfl k) (by rw [hd.2] at g; exact g)
theorem wior (C : Cur p l e s m meth c Z bc ml own nm rt) (X : Stand p l e R s m args below meth c T locs cells slots) {x y : Int32} (hd : Dec bc pc (.ior) 1 pc') (g : Go p e below s Q kC kS T (mkF m pc' Ls (.int (x ||| y) :: S))) : Go p e below s Q kC kS T (mkF m pc Ls (.int y :: .int x :: S)) :=
  Go.step (fun _ k => XS.ior X.here C.1 rfl (hb C.2.2.1 hd.1) rfl k) (by rw [hd.2] at g; exact g)
theorem wixor (C : Cur p l e s m meth c Z bc ml own nm rt) (X : Stand p l e R s m args below meth c T locs cells slots) {x y : Int32} (hd : Dec bc pc (.ixor) 1 pc') (g : Go p e below s Q kC kS T (mkF m pc' Ls (.int (x ^^^ y) :: S))) : Go p e below s Q kC kS T (mkF m pc Ls (.int y :: .int x :: S)) :=
  Go.step (fun _ k => XS.ixor X.here C.1 rfl (hb C.2.2.1 hd.1) rfl k) (by rw [hd.2] at g; exact g)
theorem wishl (C : Cur p l e s m meth c Z bc ml own nm rt) (X : Stand p l e R s m args below meth c T locs cells slots) {x y : Int32} (hd : Dec bc pc (.ishl) 1 pc') (g : Go p e below s Q kC kS T (mkF m pc' Ls (.int (x <<< (y &&& 31)) :: S))) : Go p e below s Q kC kS T (mkF m pc Ls (.int y :: .int x :: S)) :=
  Go.step (fun _ k => XS.ishl X.here C.1 rfl (hb C.2.2.1 hd.1) rfl k) (by rw [hd.2] at g; exact g)
theorem wishr (C : Cur p l e s m meth c Z bc ml own nm rt) (X : Stand p l e R s m args below meth c T locs cells slots) {x y : Int32} (hd : Dec bc pc (.ishr) 1 pc') (g : Go p e below s Q kC kS T (mkF m pc' Ls (.int (x >>> (y &&& 31)) :: S))) : Go p e below s Q kC kS T (mkF m pc Ls (.int y :: .int x :: S)) :=
  Go.step (fun _ k => XS.ishr X.here C.1 rfl (hb C.2.2.1 hd.1) rfl k) (by rw [hd.2] at g; exact g)
theorem wiushr (C : Cur p l e s m meth c Z bc ml own nm rt) (X : Stand p l e R s m args below meth c T locs cells slots) {x y : Int32} (hd : Dec bc pc (.iushr) 1 pc') (g : Go p e below s Q kC kS T (mkF m pc' Ls (.int ((x.toUInt32 >>> (y &&& 31).toUInt32).toInt32) :: S))) : Go p e below s Q kC kS T (mkF m pc Ls (.int y :: .int x :: S)) :=
  Go.step (fun _ k => XS.iushr X.here C.1 rfl (hb C.2.2.1 hd.1) rfl k) (by rw [hd.2] at g; exact g)
theorem wladd (C : Cur p l e s m meth c Z bc ml own nm rt) (X : Stand p l e R s m args below meth c T locs cells slots) {x y : Int64} (hd : Dec bc pc (.ladd) 1 pc') (g : Go p e below s Q kC kS T (mkF m pc' Ls (.long (x + y) :: S))) : Go p e below s Q kC kS T (mkF m pc Ls (.long y :: .long x :: S)) :=
  Go.step (fun _ k => XS.ladd X.here C.1 rfl (hb C.2.2.1 hd.1) rfl k) (by rw [hd.2] at g; exact g)
theorem wlsub (C : Cur p l e s m meth c Z bc ml own nm rt) (X : Stand p l e R s m args below meth c T locs cells slots) {x y : Int64} (hd : Dec bc pc (.lsub) 1 pc') (g : Go p e below s Q kC kS T (mkF m pc' Ls (.long (x - y) :: S))) : Go p e below s Q kC kS T (mkF m pc Ls (.long y :: .long x :: S)) :=
  Go.step (fun _ k => XS.lsub X.here C.1 rfl (hb C.2.2.1 hd.1) rfl k) (by rw [hd.2] at g; exact g)
theorem wlmul (C : Cur p l e s m meth c Z bc ml own nm rt) (X : Stand p l e R s m args below meth c T locs cells slots) {x y : Int64} (hd : Dec bc pc (.lmul) 1 pc') (g : Go p e below s Q kC kS T (mkF m pc' Ls (.long (x * y) :: S))) : Go p e below s Q kC kS T (mkF m pc Ls (.long y :: .long x :: S)) :=
  Go.step (fun _ k => XS.lmul X.here C.1 rfl (hb C.2.2.1 hd.1) rfl k) (by rw [hd.2] at g; exact g)
theorem wland (C : Cur p l e s m meth c Z bc ml own nm rt) (X : Stand p l e R s m args below meth c T locs cells slots) {x y : Int64} (hd : Dec bc pc (.land) 1 pc') (g : Go p e below s Q kC kS T (mkF m pc' Ls (.long (x &&& y) :: S))) : Go p e below s Q kC kS T (mkF m pc Ls (.long y :: .long x :: S)) :=
  Go.step (fun _ k => XS.land X.here C.1 rfl (hb C.2.2.1 hd.1) rfl k) (by rw [hd.2] at g; exact g)
theorem wlor (C : Cur p l e s m meth c Z bc ml own nm rt) (X : Stand p l e R s m args below meth c T locs cells slots) {x y : Int64} (hd : Dec bc pc (.lor) 1 pc') (g : Go p e below s Q kC kS T (mkF m pc' Ls (.long (x ||| y) :: S))) : Go p e below s Q kC kS T (mkF m pc Ls (.long y :: .long x :: S)) :=
  Go.step (fun _ k => XS.lor X.here C.1 rfl (hb C.2.2.1 hd.1) rfl k) (by rw [hd.2] at g; exact g)
theorem wlxor (C : Cur p l e s m meth c Z bc ml own nm rt) (X : Stand p l e R s m args below meth c T locs cells slots) {x y : Int64} (hd : Dec bc pc (.lxor) 1 pc') (g : Go p e below s Q kC kS T (mkF m pc' Ls (.long (x ^^^ y) :: S))) : Go p e below s Q kC kS T (mkF m pc Ls (.long y :: .long x :: S)) :=
  Go.step (fun _ k => XS.lxor X.here C.1 rfl (hb C.2.2.1 hd.1) rfl k) (by rw [hd.2] at g; exact g)
theorem wlshl (C : Cur p l e s m meth c Z bc ml own nm rt) (X : Stand p l e R s m args below meth c T locs cells slots) {x : Int64} {y : Int32} (hd : Dec bc pc (.lshl) 1 pc') (g : Go p e below s Q kC kS T (mkF m pc' Ls (.long (x <<< (y &&& 0x3f).toInt64) :: S))) : Go p e below s Q kC kS T (mkF m pc Ls (.int y :: .long x :: S)) :=
  Go.step (fun _ k => XS.lshl X.here C.1 rfl (hb C.2.2.1 hd.1) rfl k) (by rw [hd.2] at g; exact g)
theorem wlshr (C : Cur p l e s m meth c Z bc ml own nm rt) (X : Stand p l e R s m args below meth c T locs cells slots) {x : Int64} {y : Int32} (hd : Dec bc pc (.lshr) 1 pc') (g : Go p e below s Q kC kS T (mkF m pc' Ls (.long (x >>> (y &&& 0x3f).toInt64) :: S))) : Go p e below s Q kC kS T (mkF m pc Ls (.int y :: .long x :: S)) :=
  Go.step (fun _ k => XS.lshr X.here C.1 rfl (hb C.2.2.1 hd.1) rfl k) (by rw [hd.2] at g; exact g)
theorem wlushr (C : Cur p l e s m meth c Z bc ml own nm rt) (X : Stand p l e R s m args below meth c T locs cells slots) {x : Int64} {y : Int32} (hd : Dec bc pc (.lushr) 1 pc') (g : Go p e below s Q kC kS T (mkF m pc' Ls (.long ((x.toUInt64 >>> (y &&& 0x3f).toInt64.toUInt64).toInt64) :: S))) : Go p e below s Q kC kS T (mkF m pc Ls (.int y :: .long x :: S)) :=
  Go.step (fun _ k => XS.lushr X.here C.1 rfl (hb C.2.2.1 hd.1) rfl k) (by rw [hd.2] at g; exact g)
theorem widiv (C : Cur p l e s m meth c Z bc ml own nm rt) (X : Stand p l e R s m args below meth c T locs cells slots) {x y : Int32} (hd : Dec bc pc (.idiv) 1 pc') (hy : y ≠ 0) (g : Go p e below s Q kC kS T (mkF m pc' Ls (.int (x / y) :: S))) : Go p e below s Q kC kS T (mkF m pc Ls (.int y :: .int x :: S)) :=
  Go.step (fun _ k => XS.idiv X.here C.1 rfl (hb C.2.2.1 hd.1) rfl hy k) (by rw [hd.2] at g; exact g)
theorem wirem (C : Cur p l e s m meth c Z bc ml own nm rt) (X : Stand p l e R s m args below meth c T locs cells slots) {x y : Int32} (hd : Dec bc pc (.irem) 1 pc') (hy : y ≠ 0) (g : Go p e below s Q kC kS T (mkF m pc' Ls (.int (x % y) :: S))) : Go p e below s Q kC kS T (mkF m pc Ls (.int y :: .int x :: S)) :=
  Go.step (fun _ k => iremM X C.1 rfl (hb C.2.2.1 hd.1) rfl hy k) (by rw [hd.2] at g; exact g)
theorem wldiv (C : Cur p l e s m meth c Z bc ml own nm rt) (X : Stand p l e R s m args below meth c T locs cells slots) {x y : Int64} (hd : Dec bc pc (.ldiv) 1 pc') (hy : y ≠ 0) (g : Go p e below s Q kC kS T (mkF m pc' Ls (.long (x / y) :: S))) : Go p e below s Q kC kS T (mkF m pc Ls (.long y :: .long x :: S)) :=
  Go.step (fun _ k => XS.ldiv X.here C.1 rfl (hb C.2.2.1 hd.1) rfl hy k) (by rw [hd.2] at g; exact g)
theorem wineg (C : Cur p l e s m meth c Z bc ml own nm rt) (X : Stand p l e R s m args below meth c T locs cells slots) {x : Int32} (hd : Dec bc pc (.ineg) 1 pc') (g : Go p e below s Q kC kS T (mkF m pc' Ls (.int (-x) :: S))) : Go p e below s Q kC kS T (mkF m pc Ls (.int x :: S)) :=
  Go.step (fun _ k => XS.ineg X.here C.1 rfl (hb C.2.2.1 hd.1) rfl k) (by rw [hd.2] at g; exact g)
theorem wi2l (C : Cur p l e s m meth c Z bc ml own nm rt) (X : Stand p l e R s m args below meth c T locs cells slots) {x : Int32} (hd : Dec bc pc (.i2l) 1 pc') (g : Go p e below s Q kC kS T (mkF m pc' Ls (.long (x.toInt64) :: S))) : Go p e below s Q kC kS T (mkF m pc Ls (.int x :: S)) :=
  Go.step (fun _ k => XS.i2l X.here C.1 rfl (hb C.2.2.1 hd.1) rfl k) (by rw [hd.2] at g; exact g)
theorem wl2i (C : Cur p l e s m meth c Z bc ml own nm rt) (X : Stand p l e R s m args below meth c T locs cells slots) {x : Int64} (hd : Dec bc pc (.l2i) 1 pc') (g : Go p e below s Q kC kS T (mkF m pc' Ls (.int (x.toInt32) :: S))) : Go p e below s Q kC kS T (mkF m pc Ls (.long x :: S)) :=
  Go.step (fun _ k => XS.l2i X.here C.1 rfl (hb C.2.2.1 hd.1) rfl k) (by rw [hd.2] at g; exact g)
theorem wi2b (C : Cur p l e s m meth c Z bc ml own nm rt) (X : Stand p l e R s m args below meth c T locs cells slots) {x : Int32} (hd : Dec bc pc (.i2b) 1 pc') (g : Go p e below s Q kC kS T (mkF m pc' Ls (.int (x.toInt8.toInt32) :: S))) : Go p e below s Q kC kS T (mkF m pc Ls (.int x :: S)) :=
  Go.step (fun _ k => XS.i2b X.here C.1 rfl (hb C.2.2.1 hd.1) rfl k) (by rw [hd.2] at g; exact g)
theorem wi2s (C : Cur p l e s m meth c Z bc ml own nm rt) (X : Stand p l e R s m args below meth c T locs cells slots) {x : Int32} (hd : Dec bc pc (.i2s) 1 pc') (g : Go p e below s Q kC kS T (mkF m pc' Ls (.int (x.toInt16.toInt32) :: S))) : Go p e below s Q kC kS T (mkF m pc Ls (.int x :: S)) :=
  Go.step (fun _ k => XS.i2s X.here C.1 rfl (hb C.2.2.1 hd.1) rfl k) (by rw [hd.2] at g; exact g)
theorem wi2c (C : Cur p l e s m meth c Z bc ml own nm rt) (X : Stand p l e R s m args below meth c T locs cells slots) {x : Int32} (hd : Dec bc pc (.i2c) 1 pc') (g : Go p e below s Q kC kS T (mkF m pc' Ls (.int (x.toUInt32.toUInt16.toUInt32.toInt32) :: S))) : Go p e below s Q kC kS T (mkF m pc Ls (.int x :: S)) :=
  Go.step (fun _ k => XS.i2c X.here C.1 rfl (hb C.2.2.1 hd.1) rfl k) (by rw [hd.2] at g; exact g)
theorem wlneg (C : Cur p l e s m meth c Z bc ml own nm rt) (X : Stand p l e R s m args below meth c T locs cells slots) {x : Int64} (hd : Dec bc pc (.lneg) 1 pc') (g : Go p e below s Q kC kS T (mkF m pc' Ls (.long (-x) :: S))) : Go p e below s Q kC kS T (mkF m pc Ls (.long x :: S)) :=
  Go.step (fun _ k => XS.lneg X.here C.1 rfl (hb C.2.2.1 hd.1) rfl k) (by rw [hd.2] at g; exact g)
theorem wi2d (C : Cur p l e s m meth c Z bc ml own nm rt) (X : Stand p l e R s m args below meth c T locs cells slots) {x : Int32} (hd : Dec bc pc (.i2d) 1 pc') (g : Go p e below s Q kC kS T (mkF m pc' Ls (.double (FP.i2d x) :: S))) : Go p e below s Q kC kS T (mkF m pc Ls (.int x :: S)) :=
  Go.step (fun _ k => XS.i2dS X.here C.1 rfl (hb C.2.2.1 hd.1) rfl rfl k) (by rw [hd.2] at g; exact g)
theorem wl2d (C : Cur p l e s m meth c Z bc ml own nm rt) (X : Stand p l e R s m args below meth c T locs cells slots) {x : Int64} (hd : Dec bc pc (.l2d) 1 pc') (g : Go p e below s Q kC kS T (mkF m pc' Ls (.double (FP.l2d x) :: S))) : Go p e below s Q kC kS T (mkF m pc Ls (.long x :: S)) :=
  Go.step (fun _ k => XS.l2dS X.here C.1 rfl (hb C.2.2.1 hd.1) rfl rfl k) (by rw [hd.2] at g; exact g)
theorem wd2i (C : Cur p l e s m meth c Z bc ml own nm rt) (X : Stand p l e R s m args below meth c T locs cells slots) {x : UInt64} (hd : Dec bc pc (.d2i) 1 pc') (g : Go p e below s Q kC kS T (mkF m pc' Ls (.int (FP.d2i x) :: S))) : Go p e below s Q kC kS T (mkF m pc Ls (.double x :: S)) :=
  Go.step (fun _ k => XS.d2iS X.here C.1 rfl (hb C.2.2.1 hd.1) rfl rfl k) (by rw [hd.2] at g; exact g)
theorem wd2l (C : Cur p l e s m meth c Z bc ml own nm rt) (X : Stand p l e R s m args below meth c T locs cells slots) {x : UInt64} (hd : Dec bc pc (.d2l) 1 pc') (g : Go p e below s Q kC kS T (mkF m pc' Ls (.long (FP.d2l x) :: S))) : Go p e below s Q kC kS T (mkF m pc Ls (.double x :: S)) :=
  Go.step (fun _ k => XS.d2lS X.here C.1 rfl (hb C.2.2.1 hd.1) rfl rfl k) (by rw [hd.2] at g; exact g)
theorem wdneg (C : Cur p l e s m meth c Z bc ml own nm rt) (X : Stand p l e R s m args below meth c T locs cells slots) {x : UInt64} (hd : Dec bc pc (.dneg) 1 pc') (g : Go p e below s Q kC kS T (mkF m pc' Ls (.double (FP.dneg x) :: S))) : Go p e below s Q kC kS T (mkF m pc Ls (.double x :: S)) :=
  Go.step (fun _ k => XS.dnegS X.here C.1 rfl (hb C.2.2.1 hd.1) rfl rfl k) (by rw [hd.2] at g; exact g)
theorem wdadd (C : Cur p l e s m meth c Z bc ml own nm rt) (X : Stand p l e R s m args below meth c T locs cells slots) {x y : UInt64} (hd : Dec bc pc (.dadd) 1 pc') {v : UInt64} (hv : FP.dadd x y = v) (hn : Jvm.Free.Fl.NoNaN64 v) (g : Go p e below s Q kC kS T (mkF m pc' Ls (.double v :: S))) : Go p e below s Q kC kS T (mkF m pc Ls (.double y :: .double x :: S)) :=
  Go.step (fun _ k => XS.daddS X.here C.1 rfl (hb C.2.2.1 hd.1) rfl (by rw [hv]; exact hn) hv k) (by rw [hd.2] at g; exact g)
theorem wdsub (C : Cur p l e s m meth c Z bc ml own nm rt) (X : Stand p l e R s m args below meth c T locs cells slots) {x y : UInt64} (hd : Dec bc pc (.dsub) 1 pc') {v : UInt64} (hv : FP.dsub x y = v) (hn : Jvm.Free.Fl.NoNaN64 v) (g : Go p e below s Q kC kS T (mkF m pc' Ls (.double v :: S))) : Go p e below s Q kC kS T (mkF m pc Ls (.double y :: .double x :: S)) :=
  Go.step (fun _ k => XS.dsubS X.here C.1 rfl (hb C.2.2.1 hd.1) rfl (by rw [hv]; exact hn) hv k) (by rw [hd.2] at g; exact g)
theorem wdmul (C : Cur p l e s m meth c Z bc ml own nm rt) (X : Stand p l e R s m args below meth c T locs cells slots) {x y : UInt64} (hd : Dec bc pc (.dmul) 1 pc') {v : UInt64} (hv : FP.dmul x y = v) (hn : Jvm.Free.Fl.NoNaN64 v) (g : Go p e below s Q kC kS T (mkF m pc' Ls (.double v :: S))) : Go p e below s Q kC kS T (mkF m pc Ls (.double y :: .double x :: S)) :=
  Go.step (fun _ k => XS.dmulS X.here C.1 rfl (hb C.2.2.1 hd.1) rfl (by rw [hv]; exact hn) hv k) (by rw [hd.2] at g; exact g)
theorem wddiv (C : Cur p l e s m meth c Z bc ml own nm rt) (X : Stand p l e R s m args below meth c T locs cells slots) {x y : UInt64} (hd : Dec bc pc (.ddiv) 1 pc') {v : UInt64} (hv : FP.ddiv x y = v) (hn : Jvm.Free.Fl.NoNaN64 v) (g : Go p e below s Q kC kS T (mkF m pc' Ls (.double v :: S))) : Go p e below s Q kC kS T (mkF m pc Ls (.double y :: .double x :: S)) :=
  Go.step (fun _ k => XS.ddivS X.here C.1 rfl (hb C.2.2.1 hd.1) rfl (by rw [hv]; exact hn) hv k) (by rw [hd.2] at g; exact g)
theorem wdcmp (C : Cur p l e s m meth c Z bc ml own nm rt) (X : Stand p l e R s m args below meth c T locs cells slots) {o : CmpOp} {x y : UInt64} (hd : Dec bc pc (.dcmp o) 1 pc') {v : Int32} (hv : cmpValue (FP.dcmp x y) o = v) (g : Go p e below s Q kC kS T (mkF m pc' Ls (.int v :: S))) : Go p e below s Q kC kS T (mkF m pc Ls (.double y :: .double x :: S)) :=
  Go.step (fun _ k => XS.dcmpS X.here C.1 rfl (hb C.2.2.1 hd.1) rfl hv k) (by rw [hd.2] at g; exact g)
theorem wlcmp (C : Cur p l e s m meth c Z bc ml own nm rt) (X : Stand p l e R s m args below meth c T locs cells slots) {x y : Int64} (hd : Dec bc pc (.lcmp) 1 pc') (g : Go p e below s Q kC kS T (mkF m pc' Ls (.int (lcmpW x y) :: S))) : Go p e below s Q kC kS T (mkF m pc Ls (.long y :: .long x :: S)) :=
  Go.step (fun _ k => XS.lcmp X.here C.1 rfl (hb C.2.2.1 hd.1) rfl k) (by rw [hd.2] at g; exact g)
theorem wdup (C : Cur p l e s m meth c Z bc ml own nm rt) (X : Stand p l e R s m args below meth c T locs cells slots) {v : Value} (hd : Dec bc pc (.dup) 1 pc') (hc : v.category = 1) (g : Go p e below s Q kC kS T (mkF m pc' Ls (v :: v :: S))) : Go p e below s Q kC kS T (mkF m pc Ls (v :: S)) :=
  Go.step (fun _ k => XS.dup X.here C.1 rfl (hb C.2.2.1 hd.1) rfl hc k) (by rw [hd.2] at g; exact g)
theorem wdupX1 (C : Cur p l e s m meth c Z bc ml own nm rt) (X : Stand p l e R s m args below meth c T locs cells slots) {v u : Value} (hd : Dec bc pc (.dup_x1) 1 pc') (hc : v.category = 1) (hc' : u.category = 1) (g : Go p e below s Q kC kS T (mkF m pc' Ls (v :: u :: v :: S))) : Go p e below s Q kC kS T (mkF m pc Ls (v :: u :: S)) :=
  Go.step (fun _ k => XS.dupX1 X.here C.1 rfl (hb C.2.2.1 hd.1) rfl hc hc' k) (by rw [hd.2] at g; exact g)
theorem wdup2 (C : Cur p l e s m meth c Z bc ml own nm rt) (X : Stand p l e R s m args below meth c T locs cells slots) {v u : Value} (hd : Dec bc pc (.dup2) 1 pc') (hc : v.category = 1) (hc' : u.category = 1) (g : Go p e below s Q kC kS T (mkF m pc' Ls (v :: u :: v :: u :: S))) : Go p e below s Q kC kS T (mkF m pc Ls (v :: u :: S)) :=
  Go.step (fun _ k => Jvm.Free.XT.dup2 X.here C.1 rfl (hb C.2.2.1 hd.1) rfl hc hc' k) (by rw [hd.2] at g; exact g)
theorem wpop (C : Cur p l e s m meth c Z bc ml own nm rt) (X : Stand p l e R s m args below meth c T locs cells slots) {v : Value} (hd : Dec bc pc (.pop) 1 pc') (hc : v.category = 1) (g : Go p e below s Q kC kS T (mkF m pc' Ls S)) : Go p e below s Q kC kS T (mkF m pc Ls (v :: S)) :=
  Go.step (fun _ k => XS.pop X.here C.1 rfl (hb C.2.2.1 hd.1) rfl hc k) (by rw [hd.2] at g; exact g)
theorem wiinc (C : Cur p l e s m meth c Z bc ml own nm rt) (X : Stand p l e R s m args below meth c T locs cells slots) {k : Nat} {cst : Int} {x : Int32} (hd : Dec bc pc (.iinc k cst) 3 pc') (z : Int32) (hz : x + Int32.ofInt cst = z) (hl : Ls[k]? = some (.val (.int x))) (l' : Array Slot) (hl' : storeLocals Ls k (.int z) = some l') (g : Go p e below s Q kC kS T (mkF m pc' l' S)) : Go p e below s Q kC kS T (mkF m pc Ls S) :=
  Go.step (fun _ k => XS.iinc X.here C.1 rfl (hb C.2.2.1 hd.1) hl (by rw [hz]; exact hl') k) (by rw [hd.2] at g; exact g)
theorem wgoto (C : Cur p l e s m meth c Z bc ml own nm rt) (X : Stand p l e R s m args below meth c T locs cells slots) {o : Int} {tgt nxt : Nat} (hd : DecJ bc pc (.goto o) o tgt nxt) (g : Go p e below s Q kC kS T (mkF m tgt Ls S)) : Go p e below s Q kC kS T (mkF m pc Ls S) :=
  Go.step (fun _ k => XS.goto X.here C.1 rfl (pc0 := pc) (pc' := tgt) rfl (hb C.2.2.1 hd.1) hd.2.1 hd.2.2.1 k) g
theorem wicmp_lt (C : Cur p l e s m meth c Z bc ml own nm rt) (X : Stand p l e R s m args below meth c T locs cells slots) {x y : Int32} {o : Int} {tgt nxt : Nat} (hd : DecJ bc pc (.if_icmp .lt o) o tgt nxt) (hp : x < y → Go p e below s Q kC kS T (mkF m tgt Ls S)) (hn : ¬ x < y → Go p e below s Q kC kS T (mkF m nxt Ls S)) : Go p e below s Q kC kS T (mkF m pc Ls (.int y :: .int x :: S)) := by
  by_cases h : x < y
  · have g := hp h
    exact Go.step (fun _ k => XS.icmpYes X.here C.1 rfl (pc0 := pc) (pc' := tgt) rfl (hb C.2.2.1 hd.1) rfl (tlt h).1 hd.2.1 hd.2.2.1 k) g
  · have g := hn h
    rw [hd.2.2.2] at g; exact Go.step (fun _ k => XS.icmpNo X.here C.1 rfl (hb C.2.2.1 hd.1) rfl (flt h).1 k) g
theorem wif_lt (C : Cur p l e s m meth c Z bc ml own nm rt) (X : Stand p l e R s m args below meth c T locs cells slots) {x : Int32} {o : Int} {tgt nxt : Nat} (hd : DecJ bc pc (.ifCond .lt o) o tgt nxt) (hp : x < (0 : Int32) → Go p e below s Q kC kS T (mkF m tgt Ls S)) (hn : ¬ x < (0 : Int32) → Go p e below s Q kC kS T (mkF m nxt Ls S)) : Go p e below s Q kC kS T (mkF m pc Ls (.int x :: S)) := by
  by_cases h : x < (0 : Int32)
  · have g := hp h
    exact Go.step (fun _ k => XS.ifYes X.here C.1 rfl (pc0 := pc) (pc' := tgt) rfl (hb C.2.2.1 hd.1) rfl ((if0 _ _).trans (tlt h).1) hd.2.1 hd.2.2.1 k) g
  · have g := hn h
    rw [hd.2.2.2] at g; exact Go.step (fun _ k => XS.ifNo X.here C.1 rfl (hb C.2.2.1 hd.1) rfl ((if0 _ _).trans (flt h).1) k) g
theorem wicmp_ge (C : Cur p l e s m meth c Z bc ml own nm rt) (X : Stand p l e R s m args below meth c T locs cells slots) {x y : Int32} {o : Int} {tgt nxt : Nat} (hd : DecJ bc pc (.if_icmp .ge o) o tgt nxt) (hp : x < y → Go p e below s Q kC kS T (mkF m nxt Ls S)) (hn : ¬ x < y → Go p e below s Q kC kS T (mkF m tgt Ls S)) : Go p e below s Q kC kS T (mkF m pc Ls (.int y :: .int x :: S)) := by
  by_cases h : x < y
  · have g := hp h
    rw [hd.2.2.2] at g; exact Go.step (fun _ k => XS.icmpNo X.here C.1 rfl (hb C.2.2.1 hd.1) rfl (tlt h).2.1 k) g
  · have g := hn h
    exact Go.step (fun _ k => XS.icmpYes X.here C.1 rfl (pc0 := pc) (pc' := tgt) rfl (hb C.2.2.1 hd.1) rfl (flt h).2.1 hd.2.1 hd.2.2.1 k) g
theorem wif_ge (C : Cur p l e s m meth c Z bc ml own nm rt) (X : Stand p l e R s m args below meth c T locs cells slots) {x : Int32} {o : Int} {tgt nxt : Nat} (hd : DecJ bc pc (.ifCond .ge o) o tgt nxt) (hp : x < (0 : Int32) → Go p e below s Q kC kS T (mkF m nxt Ls S)) (hn : ¬ x < (0 : Int32) → Go p e below s Q kC kS T (mkF m tgt Ls S)) : Go p e below s Q kC kS T (mkF m pc Ls (.int x :: S)) := by
  by_cases h : x < (0 : Int32)
  · have g := hp h
    rw [hd.2.2.2] at g; exact Go.step (fun _ k => XS.ifNo X.here C.1 rfl (hb C.2.2.1 hd.1) rfl ((if0 _ _).trans (tlt h).2.1) k) g
  · have g := hn h
    exact Go.step (fun _ k => XS.ifYes X.here C.1 rfl (pc0 := pc) (pc' := tgt) rfl (hb C.2.2.1 hd.1) rfl ((if0 _ _).trans (flt h).2.1) hd.2.1 hd.2.2.1 k) g
theorem wicmp_gt (C : Cur p l e s m meth c Z bc ml own nm rt) (X : Stand p l e R s m args below meth c T locs cells slots) {x y : Int32} {o : Int} {tgt nxt : Nat} (hd : DecJ bc pc (.if_icmp .gt o) o tgt nxt) (hp : y < x → Go p e below s Q kC kS T (mkF m tgt Ls S)) (hn : ¬ y < x → Go p e below s Q kC kS T (mkF m nxt Ls S)) : Go p e below s Q kC kS T (mkF m pc Ls (.int y :: .int x :: S)) := by
  by_cases h : y < x
  · have g := hp h
    exact Go.step (fun _ k => XS.icmpYes X.here C.1 rfl (pc0 := pc) (pc' := tgt) rfl (hb C.2.2.1 hd.1) rfl (tlt h).2.2.1 hd.2.1 hd.2.2.1 k) g
  · have g := hn h
    rw [hd.2.2.2] at g; exact Go.step (fun _ k => XS.icmpNo X.here C.1 rfl (hb C.2.2.1 hd.1) rfl (flt h).2.2.1 k) g
theorem wif_gt (C : Cur p l e s m meth c Z bc ml own nm rt) (X : Stand p l e R s m args below meth c T locs cells slots) {x : Int32} {o : Int} {tgt nxt : Nat} (hd : DecJ bc pc (.ifCond .gt o) o tgt nxt) (hp : (0 : Int32) < x → Go p e below s Q kC kS T (mkF m tgt Ls S)) (hn : ¬ (0 : Int32) < x → Go p e below s Q kC kS T (mkF m nxt Ls S)) : Go p e below s Q kC kS T (mkF m pc Ls (.int x :: S)) := by
  by_cases h : (0 : Int32) < x
  · have g := hp h
    exact Go.step (fun _ k => XS.ifYes X.here C.1 rfl (pc0 := pc) (pc' := tgt) rfl (hb C.2.2.1 hd.1) rfl ((if0 _ _).trans (tlt h).2.2.1) hd.2.1 hd.2.2.1 k) g
  · have g := hn h
    rw [hd.2.2.2] at g; exact Go.step (fun _ k => XS.ifNo X.here C.1 rfl (hb C.2.2.1 hd.1) rfl ((if0 _ _).trans (flt h).2.2.1) k) g
theorem wicmp_le (C : Cur p l e s m meth c Z bc ml own nm rt) (X : Stand p l e R s m args below meth c T locs cells slots) {x y : Int32} {o : Int} {tgt nxt : Nat} (hd : DecJ bc pc (.if_icmp .le o) o tgt nxt) (hp : y < x → Go p e below s Q kC kS T (mkF m nxt Ls S)) (hn : ¬ y < x → Go p e below s Q kC kS T (mkF m tgt Ls S)) : Go p e below s Q kC kS T (mkF m pc Ls (.int y :: .int x :: S)) := by
  by_cases h : y < x
  · have g := hp h
    rw [hd.2.2.2] at g; exact Go.step (fun _ k => XS.icmpNo X.here C.1 rfl (hb C.2.2.1 hd.1) rfl (tlt h).2.2.2 k) g
  · have g := hn h
    exact Go.step (fun _ k => XS.icmpYes X.here C.1 rfl (pc0 := pc) (pc' := tgt) rfl (hb C.2.2.1 hd.1) rfl (flt h).2.2.2 hd.2.1 hd.2.2.1 k) g
theorem wif_le (C : Cur p l e s m meth c Z bc ml own nm rt) (X : Stand p l e R s m args below meth c T locs cells slots) {x : Int32} {o : Int} {tgt nxt : Nat} (hd : DecJ bc pc (.ifCond .le o) o tgt nxt) (hp : (0 : Int32) < x → Go p e below s Q kC kS T (mkF m nxt Ls S)) (hn : ¬ (0 : Int32) < x → Go p e below s Q kC kS T (mkF m tgt Ls S)) : Go p e below s Q kC kS T (mkF m pc Ls (.int x :: S)) := by
  by_cases h : (0 : Int32) < x
  · have g := hp h
    rw [hd.2.2.2] at g; exact Go.step (fun _ k => XS.ifNo X.here C.1 rfl (hb C.2.2.1 hd.1) rfl ((if0 _ _).trans (tlt h).2.2.2) k) g
  · have g := hn h
    exact Go.step (fun _ k => XS.ifYes X.here C.1 rfl (pc0 := pc) (pc' := tgt) rfl (hb C.2.2.1 hd.1) rfl ((if0 _ _).trans (flt h).2.2.2) hd.2.1 hd.2.2.1 k) g
theorem wicmp_eq (C : Cur p l e s m meth c Z bc ml own nm rt) (X : Stand p l e R s m args below meth c T locs cells slots) {x y : Int32} {o : Int} {tgt nxt : Nat} (hd : DecJ bc pc (.if_icmp .eq o) o tgt nxt) (hp : x = y → Go p e below s Q kC kS T (mkF m tgt Ls S)) (hn : ¬ x = y → Go p e below s Q kC kS T (mkF m nxt Ls S)) : Go p e below s Q kC kS T (mkF m pc Ls (.int y :: .int x :: S)) := by
  by_cases h : x = y
  · have g := hp h
    exact Go.step (fun _ k => XS.icmpYes X.here C.1 rfl (pc0 := pc) (pc' := tgt) rfl (hb C.2.2.1 hd.1) rfl (teq h).1 hd.2.1 hd.2.2.1 k) g
  · have g := hn h
    rw [hd.2.2.2] at g; exact Go.step (fun _ k => XS.icmpNo X.here C.1 rfl (hb C.2.2.1 hd.1) rfl (feq h).1 k) g
theorem wif_eq (C : Cur p l e s m meth c Z bc ml own nm rt) (X : Stand p l e R s m args below meth c T locs cells slots) {x : Int32} {o : Int} {tgt nxt : Nat} (hd : DecJ bc pc (.ifCond .eq o) o tgt nxt) (hp : x = (0 : Int32) → Go p e below s Q kC kS T (mkF m tgt Ls S)) (hn : ¬ x = (0 : Int32) → Go p e below s Q kC kS T (mkF m nxt Ls S)) : Go p e below s Q kC kS T (mkF m pc Ls (.int x :: S)) := by
  by_cases h : x = (0 : Int32)
  · have g := hp h
    exact Go.step (fun _ k => XS.ifYes X.here C.1 rfl (pc0 := pc) (pc' := tgt) rfl (hb C.2.2.1 hd.1) rfl ((if0 _ _).trans (teq h).1) hd.2.1 hd.2.2.1 k) g
  · have g := hn h
    rw [hd.2.2.2] at g; exact Go.step (fun _ k => XS.ifNo X.here C.1 rfl (hb C.2.2.1 hd.1) rfl ((if0 _ _).trans (feq h).1) k) g
theorem wicmp_ne (C : Cur p l e s m meth c Z bc ml own nm rt) (X : Stand p l e R s m args below meth c T locs cells slots) {x y : Int32} {o : Int} {tgt nxt : Nat} (hd : DecJ bc pc (.if_icmp .ne o) o tgt nxt) (hp : x = y → Go p e below s Q kC kS T (mkF m nxt Ls S)) (hn : ¬ x = y → Go p e below s Q kC kS T (mkF m tgt Ls S)) : Go p e below s Q kC kS T (mkF m pc Ls (.int y :: .int x :: S)) := by
  by_cases h : x = y
  · have g := hp h
    rw [hd.2.2.2] at g; exact Go.step (fun _ k => XS.icmpNo X.here C.1 rfl (hb C.2.2.1 hd.1) rfl (teq h).2 k) g
  · have g := hn h
    exact Go.step (fun _ k => XS.icmpYes X.here C.1 rfl (pc0 := pc) (pc' := tgt) rfl (hb C.2.2.1 hd.1) rfl (feq h).2 hd.2.1 hd.2.2.1 k) g
theorem wif_ne (C : Cur p l e s m meth c Z bc ml own nm rt) (X : Stand p l e R s m args below meth c T locs cells slots) {x : Int32} {o : Int} {tgt nxt : Nat} (hd : DecJ bc pc (.ifCond .ne o) o tgt nxt) (hp : x = (0 : Int32) → Go p e below s Q kC kS T (mkF m nxt Ls S)) (hn : ¬ x = (0 : Int32) → Go p e below s Q kC kS T (mkF m tgt Ls S)) : Go p e below s Q kC kS T (mkF m pc Ls (.int x :: S)) := by
  by_cases h : x = (0 : Int32)
  · have g := hp h
    rw [hd.2.2.2] at g; exact Go.step (fun _ k => XS.ifNo X.here C.1 rfl (hb C.2.2.1 hd.1) rfl ((if0 _ _).trans (teq h).2) k) g
  · have g := hn h
    exact Go.step (fun _ k => XS.ifYes X.here C.1 rfl (pc0 := pc) (pc' := tgt) rfl (hb C.2.2.1 hd.1) rfl ((if0 _ _).trans (feq h).2) hd.2.1 hd.2.2.1 k) g
theorem wacmp_eq (C : Cur p l e s m meth c Z bc ml own nm rt) (X : Stand p l e R s m args below meth c T locs cells slots) {x y : Value} (h1 : x.isRef = true) (h2 : y.isRef = true) {o : Int} {tgt nxt : Nat} (hd : DecJ bc pc (.if_acmp .eq o) o tgt nxt) (hp : x = y → Go p e below s Q kC kS T (mkF m tgt Ls S)) (hn : ¬ x = y → Go p e below s Q kC kS T (mkF m nxt Ls S)) : Go p e below s Q kC kS T (mkF m pc Ls (y :: x :: S)) := by
  by_cases h : x = y
  · have g := hp h
    exact Go.step (fun _ k => Jvm.RoadKit.acmp X C.1 rfl h1 h2 (pc0 := pc) (pc' := tgt) (same := true) rfl (hb C.2.2.1 hd.1) rfl (decide_eq_true h) hd.2.1 (by rw [hd.2.2.1]; rfl) k) g
  · have g := hn h
    exact Go.step (fun _ k => Jvm.RoadKit.acmp X C.1 rfl h1 h2 (pc0 := pc) (pc' := nxt) (same := false) rfl (hb C.2.2.1 hd.1) rfl (decide_eq_false h) hd.2.1 (by rw [hd.2.2.2]; rfl) k) g
theorem wacmp_ne (C : Cur p l e s m meth c Z bc ml own nm rt) (X : Stand p l e R s m args below meth c T locs cells slots) {x y : Value} (h1 : x.isRef = true) (h2 : y.isRef = true) {o : Int} {tgt nxt : Nat} (hd : DecJ bc pc (.if_acmp .ne o) o tgt nxt) (hp : x = y → Go p e below s Q kC kS T (mkF m nxt Ls S)) (hn : ¬ x = y → Go p e below s Q kC kS T (mkF m tgt Ls S)) : Go p e below s Q kC kS T (mkF m pc Ls (y :: x :: S)) := by
  by_cases h : x = y
  · have g := hp h
    exact Go.step (fun _ k => Jvm.RoadKit.acmp X C.1 rfl h1 h2 (pc0 := pc) (pc' := nxt) (same := true) rfl (hb C.2.2.1 hd.1) rfl (decide_eq_true h) hd.2.1 (by rw [hd.2.2.2]; rfl) k) g
  · have g := hn h
    exact Go.step (fun _ k => Jvm.RoadKit.acmp X C.1 rfl h1 h2 (pc0 := pc) (pc' := tgt) (same := false) rfl (hb C.2.2.1 hd.1) rfl (decide_eq_false h) hd.2.1 (by rw [hd.2.2.1]; rfl) k) g
theorem wifnullY (C : Cur p l e s m meth c Z bc ml own nm rt) (X : Stand p l e R s m args below meth c T locs cells slots) {b : Addr} {o : Int} {tgt nxt : Nat} (hd : DecJ bc pc (.ifnull o) o tgt nxt) (g : Go p e below s Q kC kS T (mkF m tgt Ls S)) : Go p e below s Q kC kS T (mkF m pc Ls (.null :: S)) :=
  Go.step (fun _ k => XS.ifnullYes X.here C.1 rfl (pc0 := pc) (pc' := tgt) rfl (hb C.2.2.1 hd.1) rfl hd.2.1 hd.2.2.1 k) g
theorem wifnullN (C : Cur p l e s m meth c Z bc ml own nm rt) (X : Stand p l e R s m args below meth c T locs cells slots) {b : Addr} {o : Int} {tgt nxt : Nat} (hd : DecJ bc pc (.ifnull o) o tgt nxt) (g : Go p e below s Q kC kS T (mkF m nxt Ls S)) : Go p e below s Q kC kS T (mkF m pc Ls (.ref b :: S)) := by
  rw [hd.2.2.2] at g
  exact Go.step (fun _ k => XS.ifnullNo X.here C.1 rfl (hb C.2.2.1 hd.1) rfl k) g
theorem wifnonnullY (C : Cur p l e s m meth c Z bc ml own nm rt) (X : Stand p l e R s m args below meth c T locs cells slots) {b : Addr} {o : Int} {tgt nxt : Nat} (hd : DecJ bc pc (.ifnonnull o) o tgt nxt) (g : Go p e below s Q kC kS T (mkF m tgt Ls S)) : Go p e below s Q kC kS T (mkF m pc Ls (.ref b :: S)) :=
  Go.step (fun _ k => XS.ifnonnullYes X.here C.1 rfl (pc0 := pc) (pc' := tgt) rfl (hb C.2.2.1 hd.1) rfl hd.2.1 hd.2.2.1 k) g
theorem wifnonnullN (C : Cur p l e s m meth c Z bc ml own nm rt) (X : Stand p l e R s m args below meth c T locs cells slots) {b : Addr} {o : Int} {tgt nxt : Nat} (hd : DecJ bc pc (.ifnonnull o) o tgt nxt) (g : Go p e below s Q kC kS T (mkF m nxt Ls S)) : Go p e below s Q kC kS T (mkF m pc Ls (.null :: S)) := by
  rw [hd.2.2.2] at g
  exact Go.step (fun _ k => XS.ifnonnullNo X.here C.1 rfl (hb C.2.2.1 hd.1) rfl k) g
theorem wret (C : Cur p l e s m meth c Z bc ml own nm rt) (X : Stand p l e R s m args below meth c T locs cells slots) (hd : Dec bc pc .return_ 1 pc') (hrt : rt = none) (hk : cells ≤ kC) (hn : slots ≤ kS) (q : Q none T.heap locs) : Go p e below s Q kC kS T (mkF m pc Ls []) := by
  subst hrt
  obtain ⟨fs, hr, hrun, hended, hW, hsame⟩ := X.leave (v := none) (fun _ => rfl) C.2.2.2.2.2.2.1
  exact ⟨_, _, X.returnOut C.1 C.2.2.2.2.2.1 (hb C.2.2.1 hd.1) hr, hrun, hended, none, _, rfl, q, ⟨_, rfl⟩, hW, hsame.mono hk hn⟩
theorem wretV (C : Cur p l e s m meth c Z bc ml own nm rt) (X : Stand p l e R s m args below meth c T locs cells slots) {w : Value} {t : FieldType} {i : Instr} (hd : Dec bc pc i 1 pc') (hrt : rt = some t) (hnw : narrow t w = w)
    (hi : (i = .ireturn ∧ (t = .int ∨ t = .boolean ∨ t = .byte ∨ t = .char ∨ t = .short) ∧ ∃ z, w = .int z) ∨ (i = .lreturn ∧ t = .long ∧ ∃ z, w = .long z) ∨ (i = .dreturn ∧ t = .double ∧ ∃ z, w = .double z) ∨ (i = .freturn ∧ t = .float ∧ ∃ z, w = .float z) ∨ (i = .areturn ∧ t.isReference = true ∧ w.isRef = true))
    (hk : cells ≤ kC) (hn : slots ≤ kS) (q : Q (some w) T.heap locs) : Go p e below s Q kC kS T (mkF m pc Ls (w :: S)) := by
  subst hrt
  obtain ⟨fs, hr, hrun, hended, hW, hsame⟩ := X.leave (v := some w) (fun h => by rw [C.2.2.2.2.2.1] at h; cases h) C.2.2.2.2.2.2.1
  exact ⟨_, _, retOut X C.1 C.2.2.2.2.2.1 hnw hi (hb C.2.2.1 hd.1) hr, hrun, hended, some w, _, rfl, q, ⟨_, rfl⟩, hW, hsame.mono hk hn⟩
theorem wiret (C : Cur p l e s m meth c Z bc ml own nm rt) (X : Stand p l e R s m args below meth c T locs cells slots) {z : Int32} (hd : Dec bc pc .ireturn 1 pc') (hrt : rt = some .int) (hk : cells ≤ kC) (hn : slots ≤ kS) (q : Q (some (.int z)) T.heap locs) : Go p e below s Q kC kS T (mkF m pc Ls (.int z :: S)) :=
  wretV C X hd hrt rfl (Or.inl ⟨rfl, Or.inl rfl, z, rfl⟩) hk hn q
theorem wiretN (C : Cur p l e s m meth c Z bc ml own nm rt) (X : Stand p l e R s m args below meth c T locs cells slots) {z : Int32} {t : FieldType} (ht : t = .boolean ∨ t = .byte ∨ t = .char ∨ t = .short) (hd : Dec bc pc .ireturn 1 pc') (hrt : rt = some t) (z' : Int32) (hz : nar t z = z') (hk : cells ≤ kC) (hn : slots ≤ kS) (q : Q (some (.int z')) T.heap locs) : Go p e below s Q kC kS T (mkF m pc Ls (.int z :: S)) := by
  subst hrt hz
  obtain ⟨fs, hr, hrun, hended, hW, hsame⟩ := X.leave (v := some (.int (nar t z))) (fun h => by rw [C.2.2.2.2.2.1] at h; cases h) C.2.2.2.2.2.2.1
  exact ⟨_, _, retN X C.1 (t := t) C.2.2.2.2.2.1 ht (hb C.2.2.1 hd.1) hr, hrun, hended, some _, _, rfl, q, ⟨_, rfl⟩, hW, hsame.mono hk hn⟩
theorem wlret (C : Cur p l e s m meth c Z bc ml own nm rt) (X : Stand p l e R s m args below meth c T locs cells slots) {z : Int64} (hd : Dec bc pc .lreturn 1 pc') (hrt : rt = some .long) (hk : cells ≤ kC) (hn : slots ≤ kS) (q : Q (some (.long z)) T.heap locs) : Go p e below s Q kC kS T (mkF m pc Ls (.long z :: S)) :=
  wretV C X hd hrt rfl (Or.inr (Or.inl ⟨rfl, rfl, z, rfl⟩)) hk hn q
theorem wdret (C : Cur p l e s m meth c Z bc ml own nm rt) (X : Stand p l e R s m args below meth c T locs cells slots) {z : UInt64} (hd : Dec bc pc .dreturn 1 pc') (hrt : rt = some .double) (hk : cells ≤ kC) (hn : slots ≤ kS) (q : Q (some (.double z)) T.heap locs) : Go p e below s Q kC kS T (mkF m pc Ls (.double z :: S)) :=
  wretV C X hd hrt rfl (Or.inr (Or.inr (Or.inl ⟨rfl, rfl, z, rfl⟩))) hk hn q
theorem waret (C : Cur p l e s m meth c Z bc ml own nm rt) (X : Stand p l e R s m args below meth c T locs cells slots) {w : Value} {t : FieldType} (hd : Dec bc pc .areturn 1 pc') (hrt : rt = some t) (ht : t.isReference = true) (hw : w.isRef = true) (hnw : narrow t w = w) (hk : cells ≤ kC) (hn : slots ≤ kS) (q : Q (some w) T.heap locs) : Go p e below s Q kC kS T (mkF m pc Ls (w :: S)) :=
  wretV C X hd hrt hnw (Or.inr (Or.inr (Or.inr (Or.inr ⟨rfl, ht, hw⟩)))) hk hn q
theorem wget (C : Cur p l e s m meth c Z bc ml own nm rt) (X : Stand p l e R s m args below meth c T locs cells slots) {R0 O n d host : String} {index : Nat} (w : (Jvm.Cond.fieldLink own index R0 n d).before a0 Z = true ∨ (Jvm.Cond.fieldLinkNest own index R0 n d host).before a0 Z = true) (via : Via Z R0 O n d) (eT : T.heap = h) {a : Addr} {v : Value} (F : Fld Z h a O n d v) (hd : Dec bc pc (.getfield index) 3 pc')
    (K : ∀ T' : State, Stand p l e R s m args below meth c T' locs cells slots → T'.heap = h → Go p e below s Q kC kS T' (mkF m pc' Ls (v :: S))) : Go p e below s Q kC kS T (mkF m pc Ls (.ref a :: S)) := by
  obtain ⟨T', X', e', st⟩ := getF X C.1 C.2.1 C.2.2.2.2.1 w via eT F (g := mkF m pc Ls (.ref a :: S)) rfl rfl (hb C.2.2.1 hd.1)
  have k := K T' X' e'
  rw [hd.2] at k
  exact Go.step st k
theorem wgets (C : Cur p l e s m meth c Z bc ml own nm rt) (X : Stand p l e R s m args below meth c T locs cells slots) {R0 O n d host : String} {index : Nat} (w : (Jvm.Cond.fieldLink own index R0 n d).before a0 Z = true ∨ (Jvm.Cond.fieldLinkNest own index R0 n d host).before a0 Z = true) (via : Via Z R0 O n d) (eT : T.heap = h) {v : Value} (F : Sta Z h O n d v) (hd : Dec bc pc (.getstatic index) 3 pc')
    (K : ∀ T' : State, Stand p l e R s m args below meth c T' locs cells slots → T'.heap = h → Go p e below s Q kC kS T' (mkF m pc' Ls (v :: S))) : Go p e below s Q kC kS T (mkF m pc Ls S) := by
  obtain ⟨T', X', e', st⟩ := getS2 X C.1 C.2.1 C.2.2.2.2.1 w via eT F (g := mkF m pc Ls S) rfl (hb C.2.2.1 hd.1)
  have k := K T' X' e'
  rw [hd.2] at k
  exact Go.step st k
theorem wput (C : Cur p l e s m meth c Z bc ml own nm rt) (X : Stand p l e R s m args below meth c T locs cells slots) {R0 O n d host C0 : String} {index kk : Nat} {ty : FieldType} (w : (Jvm.Cond.fieldLink own index R0 n d).before a0 Z = true ∨ (Jvm.Cond.fieldLinkNest own index R0 n d host).before a0 Z = true) (via : Via Z R0 O n d) (eT : T.heap = h) {a : Addr} {v old : Value} (F : Fld Z h a O n d old) (E : Exa Z h a C0)
    (L : (Jvm.Cond.lays C0 O n d).before a0 Z = true ∨ ((Jvm.Cond.laysFinal C0 O n d).before a0 Z = true ∧ own = O ∧ nm = "<init>")) (wi : (Jvm.Cond.instantiable C0 kk).before a0 Z = true) (hty : parseFieldDescriptor d = some ty) (hn : narrow ty v = v) (hf : fits ty v = true) (hd : Dec bc pc (.putfield index) 3 pc')
    (K : ∀ (T' : State) (h' : Heap), Stand p l e R s m args below meth c T' (locs ++ [⟨a, Jvm.RoadKit.slotOf Z O n d⟩]) cells slots → T'.heap = h' → Wr h h' a (Jvm.RoadKit.slotOf Z O n d) v → Go p e below s Q kC kS T' (mkF m pc' Ls S)) : Go p e below s Q kC kS T (mkF m pc Ls (v :: .ref a :: S)) := by
  obtain ⟨T', h', X', e', W, st⟩ := putF X C.1 C.2.1 C.2.2.2.2.1 w via eT F E (L.imp id fun q => ⟨q.1, q.2.1, C.2.2.2.2.2.2.2.trans q.2.2⟩) wi hty hn hf (g := mkF m pc Ls (v :: .ref a :: S)) rfl rfl (hb C.2.2.1 hd.1)
  have k := K T' h' X' e' W
  rw [hd.2] at k
  exact Go.step st k
theorem wputN (C : Cur p l e s m meth c Z bc ml own nm rt) (X : Stand p l e R s m args below meth c T locs cells slots) {R0 O n d C0 : String} {index kk : Nat} {ty : FieldType} (w : (Jvm.Cond.fieldLink own index R0 n d).before a0 Z = true) (via : Via Z R0 O n d) (eT : T.heap = h) {a : Addr} {v old : Value} (F : Fld Z h a O n d old) (E : Exa Z h a C0)
    (L : (Jvm.Cond.lays C0 O n d).before a0 Z = true ∨ ((Jvm.Cond.laysFinal C0 O n d).before a0 Z = true ∧ own = O ∧ nm = "<init>")) (wi : (Jvm.Cond.instantiable C0 kk).before a0 Z = true) (hty : parseFieldDescriptor d = some ty) (v' : Value) (hn : narrow ty v = v') (hf : fits ty v' = true) (hd : Dec bc pc (.putfield index) 3 pc')
    (K : ∀ (T' : State) (h' : Heap), Stand p l e R s m args below meth c T' (locs ++ [⟨a, Jvm.RoadKit.slotOf Z O n d⟩]) cells slots → T'.heap = h' → Wr h h' a (Jvm.RoadKit.slotOf Z O n d) v' → Go p e below s Q kC kS T' (mkF m pc' Ls S)) : Go p e below s Q kC kS T (mkF m pc Ls (v :: .ref a :: S)) := by
  obtain ⟨T', h', X', e', W, st⟩ := putFN X C.1 C.2.1 C.2.2.2.2.1 w via eT F E (L.imp id fun q => ⟨q.1, q.2.1, C.2.2.2.2.2.2.2.trans q.2.2⟩) wi hty hn hf (g := mkF m pc Ls (v :: .ref a :: S)) rfl rfl (hb C.2.2.1 hd.1)
  have k := K T' h' X' e' W
  rw [hd.2] at k
  exact Go.step st k
theorem wnew (C : Cur p l e s m meth c Z bc ml own nm rt) (X : Stand p l e R s m args below meth c T locs cells slots) {C0 : String} {index n : Nat} (w : (Jvm.Cond.classLink own index C0).before a0 Z = true) (wi : (Jvm.Cond.instantiable C0 n).before a0 Z = true) (wz : (Jvm.Cond.initialized C0).before a0 Z = true) (eT : T.heap = h) (hd : Dec bc pc (.new index) 3 pc') (hc : cells + 1 ≤ R.cells) (hl : slots + n ≤ R.slots)
    (K : ∀ (T' : State) (h' : Heap) (a : Addr), a = h.size → Stand p l e R s m args below meth c T' locs (cells + 1) (slots + n) → T'.heap = h' → Ext h h' → Exa Z h' a C0 → (∀ {O nm d : String} {ty : FieldType}, Laid Z a0 C0 O nm d → parseFieldDescriptor d = some ty → Fld Z h' a O nm d (defaultValue ty)) → Go p e below s Q kC kS T' (mkF m pc' Ls (.ref a :: S))) : Go p e below s Q kC kS T (mkF m pc Ls S) := by
  obtain ⟨T', h', X', e', E, A, D, -, st⟩ := newO X C.1 C.2.1 C.2.2.2.2.1 w wi wz eT (g := mkF m pc Ls S) rfl (hb C.2.2.1 hd.1) hc hl
  have k := K T' h' _ rfl X' e' E A D
  rw [hd.2] at k
  exact Go.step st k
theorem wnewarr (C : Cur p l e s m meth c Z bc ml own nm rt) (X : Stand p l e R s m args below meth c T locs cells slots) {aty : ArrayType} (w : (Jvm.Cond.arrayClass (newarray.typeOf aty)).before a0 Z = true) (eT : T.heap = h) {n : Int32} (hd : Dec bc pc (.newarray aty) 2 pc') (hn : ¬ n < 0) {cap : Nat} (hcap : n.toNatClampNeg ≤ cap) (hb' : cap * 8 ≤ 536870912) (hc : cells + 1 ≤ R.cells) (hl : slots + cap ≤ R.slots)
    (K : ∀ (T' : State) (h' : Heap) (a : Addr) (k : ClassId), a = h.size → Stand p l e R s m args below meth c T' locs (cells + 1) (slots + cap) → T'.heap = h' → Ext h h' → Arv Z h' a k (newarray.typeOf aty) n [] (defaultValue (newarray.typeOf aty)) → Go p e below s Q kC kS T' (mkF m pc' Ls (.ref a :: S))) : Go p e below s Q kC kS T (mkF m pc Ls (.int n :: S)) := by
  obtain ⟨T', h', kA, X', e', E, A, st⟩ := newP X C.1 C.2.1 w eT (g := mkF m pc Ls (.int n :: S)) rfl (hb C.2.2.1 hd.1) rfl hn hcap hb' hc hl
  have k := K T' h' _ kA rfl X' e' E (Arv.new A hn)
  rw [hd.2] at k
  exact Go.step st k
theorem wiaload (C : Cur p l e s m meth c Z bc ml own nm rt) (X : Stand p l e R s m args below meth c T locs cells slots) (eT : T.heap = h) {a : Addr} {ka : ClassId} {n j : Int32} {vs : List Value} {dv : Value} (V : Arv Z h a ka .int n vs dv) (hd : Dec bc pc .iaload 1 pc') (hj : ¬ j < 0 ∧ j < n) {i : Nat} (hi : j.toNatClampNeg = i) {v : Int32} (hv : vs.getD i dv = .int v) (g : Go p e below s Q kC kS T (mkF m pc' Ls (.int v :: S))) : Go p e below s Q kC kS T (mkF m pc Ls (.int j :: .ref a :: S)) := by
  obtain ⟨cl, A, -, hS, -, hH, -⟩ := V
  have hin := inb_of hS hj
  rw [hd.2] at g
  exact Go.step (fun t k => X.iaload C.1 (by rw [eT]; exact A.1) (State.isArrayOf_alike C.2.1.alike A.2.1) A.2.2 hin (hH.at hin (by rw [hi]; exact hv)) (g := mkF m pc Ls (.int j :: .ref a :: S)) rfl rfl (hb C.2.2.1 hd.1) t k) g
theorem wlaload (C : Cur p l e s m meth c Z bc ml own nm rt) (X : Stand p l e R s m args below meth c T locs cells slots) (eT : T.heap = h) {a : Addr} {ka : ClassId} {n j : Int32} {vs : List Value} {dv : Value} (V : Arv Z h a ka .long n vs dv) (hd : Dec bc pc .laload 1 pc') (hj : ¬ j < 0 ∧ j < n) {i : Nat} (hi : j.toNatClampNeg = i) {v : Int64} (hv : vs.getD i dv = .long v) (g : Go p e below s Q kC kS T (mkF m pc' Ls (.long v :: S))) : Go p e below s Q kC kS T (mkF m pc Ls (.int j :: .ref a :: S)) := by
  obtain ⟨cl, A, -, hS, -, hH, -⟩ := V
  have hin := inb_of hS hj
  rw [hd.2] at g
  exact Go.step (fun t k => X.laload C.1 (by rw [eT]; exact A.1) (State.isArrayOf_alike C.2.1.alike A.2.1) A.2.2 hin (hH.at hin (by rw [hi]; exact hv)) (g := mkF m pc Ls (.int j :: .ref a :: S)) rfl rfl (hb C.2.2.1 hd.1) t k) g
theorem wdaload (C : Cur p l e s m meth c Z bc ml own nm rt) (X : Stand p l e R s m args below meth c T locs cells slots) (eT : T.heap = h) {a : Addr} {ka : ClassId} {n j : Int32} {vs : List Value} {dv : Value} (V : Arv Z h a ka .double n vs dv) (hd : Dec bc pc .daload 1 pc') (hj : ¬ j < 0 ∧ j < n) {i : Nat} (hi : j.toNatClampNeg = i) {v : UInt64} (hv : vs.getD i dv = .double v) (g : Go p e below s Q kC kS T (mkF m pc' Ls (.double v :: S))) : Go p e below s Q kC kS T (mkF m pc Ls (.int j :: .ref a :: S)) := by
  obtain ⟨cl, A, -, hS, -, hH, -⟩ := V
  have hin := inb_of hS hj
  rw [hd.2] at g
  exact Go.step (fun t k => X.daload C.1 (by rw [eT]; exact A.1) (State.isArrayOf_alike C.2.1.alike A.2.1) A.2.2 hin (hH.at hin (by rw [hi]; exact hv)) (g := mkF m pc Ls (.int j :: .ref a :: S)) rfl rfl (hb C.2.2.1 hd.1) t k) g
theorem wcaload (C : Cur p l e s m meth c Z bc ml own nm rt) (X : Stand p l e R s m args below meth c T locs cells slots) (eT : T.heap = h) {a : Addr} {ka : ClassId} {n j : Int32} {vs : List Value} {dv : Value} (V : Arv Z h a ka .char n vs dv) (hd : Dec bc pc .caload 1 pc') (hj : ¬ j < 0 ∧ j < n) {i : Nat} (hi : j.toNatClampNeg = i) {v : Int32} (hv : vs.getD i dv = .int v) (g : Go p e below s Q kC kS T (mkF m pc' Ls (.int v :: S))) : Go p e below s Q kC kS T (mkF m pc Ls (.int j :: .ref a :: S)) := by
  obtain ⟨cl, A, -, hS, -, hH, -⟩ := V
  have hin := inb_of hS hj
  rw [hd.2] at g
  exact Go.step (fun t k => X.caload C.1 (by rw [eT]; exact A.1) (State.isArrayOf_alike C.2.1.alike A.2.1) A.2.2 hin (hH.at hin (by rw [hi]; exact hv)) (g := mkF m pc Ls (.int j :: .ref a :: S)) rfl rfl (hb C.2.2.1 hd.1) t k) g
theorem wbaloadB (C : Cur p l e s m meth c Z bc ml own nm rt) (X : Stand p l e R s m args below meth c T locs cells slots) (eT : T.heap = h) {a : Addr} {ka : ClassId} {n j : Int32} {vs : List Value} {dv : Value} (V : Arv Z h a ka .byte n vs dv) (hd : Dec bc pc .baload 1 pc') (hj : ¬ j < 0 ∧ j < n) {i : Nat} (hi : j.toNatClampNeg = i) {v : Int32} (hv : vs.getD i dv = .int v) (g : Go p e below s Q kC kS T (mkF m pc' Ls (.int v :: S))) : Go p e below s Q kC kS T (mkF m pc Ls (.int j :: .ref a :: S)) := by
  obtain ⟨cl, A, -, hS, -, hH, -⟩ := V
  have hin := inb_of hS hj
  rw [hd.2] at g
  exact Go.step (fun t k => X.baloadBytes C.1 (by rw [eT]; exact A.1) (State.isArrayOf_alike C.2.1.alike A.2.1) A.2.2 hin (hH.at hin (by rw [hi]; exact hv)) (g := mkF m pc Ls (.int j :: .ref a :: S)) rfl rfl (hb C.2.2.1 hd.1) t k) g
theorem wbaloadZ (C : Cur p l e s m meth c Z bc ml own nm rt) (X : Stand p l e R s m args below meth c T locs cells slots) (eT : T.heap = h) {a : Addr} {ka : ClassId} {n j : Int32} {vs : List Value} {dv : Value} (V : Arv Z h a ka .boolean n vs dv) (hd : Dec bc pc .baload 1 pc') (hj : ¬ j < 0 ∧ j < n) {i : Nat} (hi : j.toNatClampNeg = i) {v : Int32} (hv : vs.getD i dv = .int v) (g : Go p e below s Q kC kS T (mkF m pc' Ls (.int v :: S))) : Go p e below s Q kC kS T (mkF m pc Ls (.int j :: .ref a :: S)) := by
  obtain ⟨cl, A, -, hS, -, hH, -⟩ := V
  have hin := inb_of hS hj
  rw [hd.2] at g
  exact Go.step (fun t k => X.baloadBooleans C.1 (by rw [eT]; exact A.1) (State.isArrayOf_alike C.2.1.alike A.2.1) A.2.2 hin (hH.at hin (by rw [hi]; exact hv)) (g := mkF m pc Ls (.int j :: .ref a :: S)) rfl rfl (hb C.2.2.1 hd.1) t k) g
theorem waaload (C : Cur p l e s m meth c Z bc ml own nm rt) (X : Stand p l e R s m args below meth c T locs cells slots) (eT : T.heap = h) {a : Addr} {ka : ClassId} {ty : FieldType} {n j : Int32} {vs : List Value} {dv : Value} (V : Arv Z h a ka ty n vs dv) (hty : ty.isReference = true) (hd : Dec bc pc .aaload 1 pc') (hj : ¬ j < 0 ∧ j < n) {i : Nat} (hi : j.toNatClampNeg = i) {v : Value} (hv : vs.getD i dv = v) (g : Go p e below s Q kC kS T (mkF m pc' Ls (v :: S))) : Go p e below s Q kC kS T (mkF m pc Ls (.int j :: .ref a :: S)) := by
  obtain ⟨cl, A, -, hS, -, hH, -⟩ := V
  have hin := inb_of hS hj
  rw [hd.2] at g
  exact Go.step (fun t k => X.aaload C.1 (by rw [eT]; exact A.1) (State.isArrayOf_alike C.2.1.alike A.2.1) hty A.2.2 hin (hH.at hin (by rw [hi]; exact hv)) (g := mkF m pc Ls (.int j :: .ref a :: S)) rfl rfl (hb C.2.2.1 hd.1) t k) g
theorem walen (C : Cur p l e s m meth c Z bc ml own nm rt) (X : Stand p l e R s m args below meth c T locs cells slots) (eT : T.heap = h) {a : Addr} {ka : ClassId} {ty : FieldType} {n : Int32} {vs : List Value} {dv : Value} (V : Arv Z h a ka ty n vs dv) (hd : Dec bc pc .arraylength 1 pc') (g : Go p e below s Q kC kS T (mkF m pc' Ls (.int n :: S))) : Go p e below s Q kC kS T (mkF m pc Ls (.ref a :: S)) := by
  obtain ⟨cl, A, -, hS, hN, -, -⟩ := V
  rw [hd.2] at g
  exact Go.step (fun t k => X.arraylength C.1 (by rw [eT]; exact A.1) (State.isArrayOf_alike C.2.1.alike A.2.1) (g := mkF m pc Ls (.ref a :: S)) rfl rfl (hb C.2.2.1 hd.1) t (by rw [len_of hS hN]; exact k)) g
theorem wiastore (C : Cur p l e s m meth c Z bc ml own nm rt) (X : Stand p l e R s m args below meth c T locs cells slots) (eT : T.heap = h) {a : Addr} {ka : ClassId} {n j : Int32} {x : Int32} {vs : List Value} {dv : Value} (V : Arv Z h a ka .int n vs dv) (hd : Dec bc pc .iastore 1 pc') (hj : ¬ j < 0 ∧ j < n) (i : Nat) (hi : j.toNatClampNeg = i) (hlt : i < vs.length) (vs' : List Value) (hs : vs.set i (.int x) = vs')
    (K : ∀ (T' : State) (h' : Heap) (sl : Nat) (w : Value), Stand p l e R s m args below meth c T' (locs ++ [⟨a, sl⟩]) cells slots → T'.heap = h' → Wr h h' a sl w → Arv Z h' a ka .int n vs' dv → Go p e below s Q kC kS T' (mkF m pc' Ls S)) : Go p e below s Q kC kS T (mkF m pc Ls (.int x :: .int j :: .ref a :: S)) := by
  obtain ⟨cl, A, hk, hS, hN, hH, hG⟩ := V
  have hin := inb_of hS hj
  obtain ⟨T', h', X', e', W, st⟩ := stI X C.1 C.2.1 eT A hin (g := mkF m pc Ls (.int x :: .int j :: .ref a :: S)) rfl rfl (hb C.2.2.1 hd.1)
  have V' := Arv.set A hk hS hN hH hG rfl W i hi hlt
  subst hs
  have k := K T' h' _ _ X' e' W V'
  rw [hd.2] at k
  exact Go.step st k
theorem wlastore (C : Cur p l e s m meth c Z bc ml own nm rt) (X : Stand p l e R s m args below meth c T locs cells slots) (eT : T.heap = h) {a : Addr} {ka : ClassId} {n j : Int32} {x : Int64} {vs : List Value} {dv : Value} (V : Arv Z h a ka .long n vs dv) (hd : Dec bc pc .lastore 1 pc') (hj : ¬ j < 0 ∧ j < n) (i : Nat) (hi : j.toNatClampNeg = i) (hlt : i < vs.length) (vs' : List Value) (hs : vs.set i (.long x) = vs')
    (K : ∀ (T' : State) (h' : Heap) (sl : Nat) (w : Value), Stand p l e R s m args below meth c T' (locs ++ [⟨a, sl⟩]) cells slots → T'.heap = h' → Wr h h' a sl w → Arv Z h' a ka .long n vs' dv → Go p e below s Q kC kS T' (mkF m pc' Ls S)) : Go p e below s Q kC kS T (mkF m pc Ls (.long x :: .int j :: .ref a :: S)) := by
  obtain ⟨cl, A, hk, hS, hN, hH, hG⟩ := V
  have hin := inb_of hS hj
  obtain ⟨T', h', X', e', W, st⟩ := stJ X C.1 C.2.1 eT A hin (g := mkF m pc Ls (.long x :: .int j :: .ref a :: S)) rfl rfl (hb C.2.2.1 hd.1)
  have V' := Arv.set A hk hS hN hH hG rfl W i hi hlt
  subst hs
  have k := K T' h' _ _ X' e' W V'
  rw [hd.2] at k
  exact Go.step st k
theorem wdastore (C : Cur p l e s m meth c Z bc ml own nm rt) (X : Stand p l e R s m args below meth c T locs cells slots) (eT : T.heap = h) {a : Addr} {ka : ClassId} {n j : Int32} {x : UInt64} {vs : List Value} {dv : Value} (V : Arv Z h a ka .double n vs dv) (hd : Dec bc pc .dastore 1 pc') (hj : ¬ j < 0 ∧ j < n) (i : Nat) (hi : j.toNatClampNeg = i) (hlt : i < vs.length) (vs' : List Value) (hs : vs.set i (.double x) = vs')
    (K : ∀ (T' : State) (h' : Heap) (sl : Nat) (w : Value), Stand p l e R s m args below meth c T' (locs ++ [⟨a, sl⟩]) cells slots → T'.heap = h' → Wr h h' a sl w → Arv Z h' a ka .double n vs' dv → Go p e below s Q kC kS T' (mkF m pc' Ls S)) : Go p e below s Q kC kS T (mkF m pc Ls (.double x :: .int j :: .ref a :: S)) := by
  obtain ⟨cl, A, hk, hS, hN, hH, hG⟩ := V
  have hin := inb_of hS hj
  obtain ⟨T', h', X', e', W, st⟩ := stD X C.1 C.2.1 eT A hin (g := mkF m pc Ls (.double x :: .int j :: .ref a :: S)) rfl rfl (hb C.2.2.1 hd.1)
  have V' := Arv.set A hk hS hN hH hG rfl W i hi hlt
  subst hs
  have k := K T' h' _ _ X' e' W V'
  rw [hd.2] at k
  exact Go.step st k
theorem wcastore (C : Cur p l e s m meth c Z bc ml own nm rt) (X : Stand p l e R s m args below meth c T locs cells slots) (eT : T.heap = h) {a : Addr} {ka : ClassId} {n j : Int32} {x : Int32} {vs : List Value} {dv : Value} (V : Arv Z h a ka .char n vs dv) (hd : Dec bc pc .castore 1 pc') (hj : ¬ j < 0 ∧ j < n) (i : Nat) (hi : j.toNatClampNeg = i) (hlt : i < vs.length) (vs' : List Value) (hs : vs.set i (.int (nar .char x)) = vs')
    (K : ∀ (T' : State) (h' : Heap) (sl : Nat) (w : Value), Stand p l e R s m args below meth c T' (locs ++ [⟨a, sl⟩]) cells slots → T'.heap = h' → Wr h h' a sl w → Arv Z h' a ka .char n vs' dv → Go p e below s Q kC kS T' (mkF m pc' Ls S)) : Go p e below s Q kC kS T (mkF m pc Ls (.int x :: .int j :: .ref a :: S)) := by
  obtain ⟨cl, A, hk, hS, hN, hH, hG⟩ := V
  have hin := inb_of hS hj
  obtain ⟨T', h', X', e', W, st⟩ := stC X C.1 C.2.1 eT A hin (g := mkF m pc Ls (.int x :: .int j :: .ref a :: S)) rfl rfl (hb C.2.2.1 hd.1)
  have V' := Arv.set A hk hS hN hH hG (fits_nar_char _) W i hi hlt
  subst hs
  have k := K T' h' _ _ X' e' W V'
  rw [hd.2] at k
  exact Go.step st k
theorem wbastoreB (C : Cur p l e s m meth c Z bc ml own nm rt) (X : Stand p l e R s m args below meth c T locs cells slots) (eT : T.heap = h) {a : Addr} {ka : ClassId} {n j : Int32} {x : Int32} {vs : List Value} {dv : Value} (V : Arv Z h a ka .byte n vs dv) (hd : Dec bc pc .bastore 1 pc') (hj : ¬ j < 0 ∧ j < n) (i : Nat) (hi : j.toNatClampNeg = i) (hlt : i < vs.length) (vs' : List Value) (hs : vs.set i (.int x.toInt8.toInt32) = vs')
    (K : ∀ (T' : State) (h' : Heap) (sl : Nat) (w : Value), Stand p l e R s m args below meth c T' (locs ++ [⟨a, sl⟩]) cells slots → T'.heap = h' → Wr h h' a sl w → Arv Z h' a ka .byte n vs' dv → Go p e below s Q kC kS T' (mkF m pc' Ls S)) : Go p e below s Q kC kS T (mkF m pc Ls (.int x :: .int j :: .ref a :: S)) := by
  obtain ⟨cl, A, hk, hS, hN, hH, hG⟩ := V
  have hin := inb_of hS hj
  obtain ⟨T', h', X', e', W, st⟩ := stB X C.1 C.2.1 eT A hin (g := mkF m pc Ls (.int x :: .int j :: .ref a :: S)) rfl rfl (hb C.2.2.1 hd.1)
  have V' := Arv.set A hk hS hN hH hG (fits_nar_byte _) W i hi hlt
  subst hs
  have k := K T' h' _ _ X' e' W V'
  rw [hd.2] at k
  exact Go.step st k
theorem wbastoreZ (C : Cur p l e s m meth c Z bc ml own nm rt) (X : Stand p l e R s m args below meth c T locs cells slots) (eT : T.heap = h) {a : Addr} {ka : ClassId} {n j : Int32} {x : Int32} {vs : List Value} {dv : Value} (V : Arv Z h a ka .boolean n vs dv) (hd : Dec bc pc .bastore 1 pc') (hj : ¬ j < 0 ∧ j < n) (i : Nat) (hi : j.toNatClampNeg = i) (hlt : i < vs.length) (vs' : List Value) (hs : vs.set i (.int (nar .boolean x)) = vs')
    (K : ∀ (T' : State) (h' : Heap) (sl : Nat) (w : Value), Stand p l e R s m args below meth c T' (locs ++ [⟨a, sl⟩]) cells slots → T'.heap = h' → Wr h h' a sl w → Arv Z h' a ka .boolean n vs' dv → Go p e below s Q kC kS T' (mkF m pc' Ls S)) : Go p e below s Q kC kS T (mkF m pc Ls (.int x :: .int j :: .ref a :: S)) := by
  obtain ⟨cl, A, hk, hS, hN, hH, hG⟩ := V
  have hin := inb_of hS hj
  obtain ⟨T', h', X', e', W, st⟩ := stZ X C.1 C.2.1 eT A hin (g := mkF m pc Ls (.int x :: .int j :: .ref a :: S)) rfl rfl (hb C.2.2.1 hd.1)
  have V' := Arv.set A hk hS hN hH hG (fits_nar_bool _) W i hi hlt
  subst hs
  have k := K T' h' _ _ X' e' W V'
  rw [hd.2] at k
  exact Go.step st k
theorem winitO (C : Cur p l e s m meth c Z bc ml own nm rt) (X : Stand p l e R s m args below meth c T locs cells slots) {index : Nat} (w1 : (Jvm.Cond.methodLink own index Lib.objectInit).before a0 Z = true) (w2 : (Jvm.Cond.instanceMethod Lib.objectInit).before a0 Z = true) (w3 : (Jvm.Cond.code Lib.objectInit ⟨#[0xb1]⟩ 1 none).before a0 Z = true) (eT : T.heap = h) {a : Addr} (hd : Dec bc pc (.invokespecial index) 3 pc') (hsz : Ls.size = ml) (hf : 1 ≤ R.frames) {W : Nat} (hW : (S.map fun v => v.category).sum ≤ W) (hl : W + 12 ≤ R.locals)
    (K : ∀ T' : State, Stand p l e R s m args below meth c T' locs cells slots → T'.heap = h → Go p e below s Q kC kS T' (mkF m pc' Ls S)) : Go p e below s Q kC kS T (mkF m pc Ls (.ref a :: S)) := by
  obtain ⟨T', X', e', st⟩ := initO X C.1 C.2.1 C.2.2.2.2.1 w1 w2 w3 eT (g := mkF m pc Ls (.ref a :: S)) rfl (hsz.trans C.2.2.2.1.symm) rfl (hb C.2.2.1 hd.1) hf (W := W) (by show 2 * 0 + _ ≤ _; simpa using hW) hl
  have k := K T' X' e'
  rw [hd.2] at k
  exact Go.step st k
theorem wspecial (C : Cur p l e s m meth c Z bc ml own nm rt) (X : Stand p l e R s m args below meth c T locs cells slots) {y : MethodName} {bytes : ByteArray} {maxL : Nat} {ret : Option FieldType} {rm : Room} {as' : Array Value} {Qc : Option Value → Heap → List Loc → Prop} {index : Nat} (hy1 : y.name = "<init>") (w1 : (Jvm.Cond.methodLink own index y).before a0 Z = true) (w2 : (Jvm.Cond.instanceMethod y).before a0 Z = true) (w3 : (Jvm.Cond.code y bytes maxL ret).before a0 Z = true) (w4 : (Jvm.Cond.initialized y.cls).before a0 Z = true) (hret : ret = none) (hy : y.cls ≠ "java/lang/invoke/MethodHandle" ∧ y.cls ≠ "java/lang/invoke/VarHandle")
    (hM : MetFree l y (head1 [Jvm.Cond.code y bytes maxL ret] rm) (fun a U => a = as' ∧ Z.Warmed39 U.vm ∧ U.heap = h) (fun _ _ _ _ _ => True) (fun _ U o U' => ∃ v L, o = .returned v ∧ Qc v U'.heap L ∧ FrameEnd U o U' L rm.cells rm.slots)) (eT : T.heap = h) (hd : Dec bc pc (.invokespecial index) 3 pc') {a : Addr} {argsL rest St : List Value} (has : as' = (.ref a :: argsL).toArray) (hst : St = argsL.reverse ++ .ref a :: rest) (hlen : ∀ sig, parseMethodDescriptor y.desc = some sig → argsL.length = sig.parameters.length) (hsz : Ls.size = ml) {W : Nat} (hW : (rest.map fun v => v.category).sum ≤ W) (hf : rm.frames + 1 ≤ R.frames) (hl : W + (maxL + 11) + rm.locals ≤ R.locals) (hc : cells + rm.cells ≤ R.cells) (hs : slots + rm.slots ≤ R.slots)
    (K : ∀ (v : Option Value) (T' : State) (L' : List Loc), Stand p l e R s m args below meth c T' (locs ++ L') (cells + rm.cells) (slots + rm.slots) → Qc v T'.heap L' → Go p e below s Q kC kS T' (mkF m pc' Ls (v.toList ++ rest))) : Go p e below s Q kC kS T (mkF m pc Ls St) := by
  subst hret
  obtain ⟨v, _, ⟨T', L', k', n'⟩, -, X', ⟨Lc, hQ, l', y', z'⟩, st⟩ := X.specialBack C.1 (y := y) hy1 C.2.2.2.2.1 (mvT C.2.1 w1) (mvT C.2.1 w2) (mvT C.2.1 w3) hy (backOf (W := W) hM C.2.1 w3 w4 hf hl) (g := mkF m pc Ls St) rfl (hsz.trans C.2.2.2.1.symm) (Steps.refl _) (a := a) (argsL := argsL) (rest := rest) hlen hst (by show 2 * 0 + _ ≤ _; simpa using hW) (hb C.2.2.1 hd.1) (fun _ _ => ⟨has.symm, eT, hc, hs⟩)
  dsimp only [Pt.U, Pt.locs, Pt.cells, Pt.slots] at X' l' y' z' st hQ
  subst l' y' z'
  have k := K v T' Lc X' hQ
  rw [hd.2] at k
  exact Go.step (fun t k => st.trans k) k
theorem wvirtual (C : Cur p l e s m meth c Z bc ml own nm rt) (X : Stand p l e R s m args below meth c T locs cells slots) {y z : MethodName} {C0 : String} {bytes : ByteArray} {maxL : Nat} {ret : Option FieldType} {rm : Room} {as' : Array Value} {Qc : Option Value → Heap → List Loc → Prop} {index : Nat} (w1 : (Jvm.Cond.methodLink own index y).before a0 Z = true) (w2 : (Jvm.Cond.declares y).before a0 Z = true) (hnf : NotFace s y) (w3 : (Jvm.Cond.selects C0 y z).before a0 Z = true) (w4 : (Jvm.Cond.instanceMethod z).before a0 Z = true) (w5 : (Jvm.Cond.code z bytes maxL ret).before a0 Z = true) (w6 : (Jvm.Cond.initialized z.cls).before a0 Z = true) (hy : y.cls ≠ "java/lang/invoke/MethodHandle" ∧ y.cls ≠ "java/lang/invoke/VarHandle")
    (hM : MetFree l z (head1 [Jvm.Cond.code z bytes maxL ret] rm) (fun a U => a = as' ∧ Z.Warmed39 U.vm ∧ U.heap = h) (fun _ _ _ _ _ => True) (fun _ U o U' => ∃ v L, o = .returned v ∧ Qc v U'.heap L ∧ FrameEnd U o U' L rm.cells rm.slots)) (eT : T.heap = h) {a : Addr} (E : Exa Z h a C0) (hd : Dec bc pc (.invokevirtual index) 3 pc') {argsL rest St : List Value} (has : as' = (.ref a :: argsL).toArray) (hst : St = argsL.reverse ++ .ref a :: rest) (hlen : ∀ sig, parseMethodDescriptor y.desc = some sig → argsL.length = sig.parameters.length) (hsz : Ls.size = ml) {W : Nat} (hW : (rest.map fun v => v.category).sum ≤ W) (hf : rm.frames + 1 ≤ R.frames) (hl : W + (maxL + 11) + rm.locals ≤ R.locals) (hc : cells + rm.cells ≤ R.cells) (hs : slots + rm.slots ≤ R.slots)
    (K : ∀ (v : Option Value) (T' : State) (L' : List Loc), Stand p l e R s m args below meth c T' (locs ++ L') (cells + rm.cells) (slots + rm.slots) → Qc v T'.heap L' → Go p e below s Q kC kS T' (mkF m pc' Ls (v.toList ++ rest))) : Go p e below s Q kC kS T (mkF m pc Ls St) := by
  obtain ⟨cB, kB, q1, q2, q3⟩ := isOf C.2.1 eT E
  obtain ⟨v, _, ⟨T', L', k', n'⟩, -, X', ⟨Lc, hQ, l', y', z'⟩, st⟩ := X.virtualBack C.1 (y := y) (z := z) C.2.2.2.2.1 (mvT C.2.1 w1) (mvT C.2.1 w2) hnf (mvT C.2.1 w3) (mvT C.2.1 w4) hy (backOf (W := W) hM C.2.1 w5 w6 hf hl) q1 q3 (g := mkF m pc Ls St) rfl (hsz.trans C.2.2.2.1.symm) (Steps.refl _) (argsL := argsL) (rest := rest) hlen hst (by show 2 * 0 + _ ≤ _; simpa using hW) (hb C.2.2.1 hd.1) (fun _ _ => ⟨has.symm, eT, hc, hs⟩)
  dsimp only [Pt.U, Pt.locs, Pt.cells, Pt.slots] at X' l' y' z' st hQ
  subst l' y' z'
  have k := K v T' Lc X' hQ
  rw [hd.2] at k
  exact Go.step (fun t k => st.trans k) k
theorem own_selp {y : MethodName} {nI : Nat} (hZ : Z.Warmed39 s.vm) (wi : (Jvm.Cond.instantiable y.cls nI).before a0 Z = true) (wp : (Jvm.Cond.privateMethod y).before a0 Z = true) (w2 : (Jvm.Cond.instanceMethod y).before a0 Z = true) (hy : y.cls ≠ "java/lang/invoke/MethodHandle" ∧ y.cls ≠ "java/lang/invoke/VarHandle") : (Jvm.Cond.selects y.cls y y).before args s = true := by
  obtain ⟨c', k', h1, h2, -, h4, -⟩ := Cond.instantiable_spec (mvT (args := args) hZ wi)
  exact selects_self_of_private h1 h2 (by simp only [Bool.or_eq_false_iff] at h4; exact h4.1) (Cond.privateMethod_at (mvP hZ wp (args := args))) (mvT hZ w2) hy
theorem wprivate (C : Cur p l e s m meth c Z bc ml own nm rt) (X : Stand p l e R s m args below meth c T locs cells slots) {y : MethodName} {bytes : ByteArray} {maxL : Nat} {ret : Option FieldType} {rm : Room} {as' : Array Value} {Qc : Option Value → Heap → List Loc → Prop} {index : Nat} (w1 : (Jvm.Cond.methodLink own index y).before a0 Z = true) (w2 : (Jvm.Cond.instanceMethod y).before a0 Z = true) (w3 : (Jvm.Cond.selects y.cls y y).before a0 Z = true) (w4 : (Jvm.Cond.privateMethod y).before a0 Z = true) (w5 : (Jvm.Cond.code y bytes maxL ret).before a0 Z = true) (w6 : (Jvm.Cond.initialized y.cls).before a0 Z = true) (hy : y.cls ≠ "java/lang/invoke/MethodHandle" ∧ y.cls ≠ "java/lang/invoke/VarHandle")
    (hM : MetFree l y (head1 [Jvm.Cond.code y bytes maxL ret] rm) (fun a U => a = as' ∧ Z.Warmed39 U.vm ∧ U.heap = h) (fun _ _ _ _ _ => True) (fun _ U o U' => ∃ v L, o = .returned v ∧ Qc v U'.heap L ∧ FrameEnd U o U' L rm.cells rm.slots)) (eT : T.heap = h) {a : Addr} {C0 : String} (E : Exa Z h a C0) (hd : Dec bc pc (.invokevirtual index) 3 pc') {argsL rest St : List Value} (has : as' = (.ref a :: argsL).toArray) (hst : St = argsL.reverse ++ .ref a :: rest) (hlen : ∀ sig, parseMethodDescriptor y.desc = some sig → argsL.length = sig.parameters.length) (hsz : Ls.size = ml) {W : Nat} (hW : (rest.map fun v => v.category).sum ≤ W) (hf : rm.frames + 1 ≤ R.frames) (hl : W + (maxL + 11) + rm.locals ≤ R.locals) (hc : cells + rm.cells ≤ R.cells) (hs : slots + rm.slots ≤ R.slots)
    (K : ∀ (v : Option Value) (T' : State) (L' : List Loc), Stand p l e R s m args below meth c T' (locs ++ L') (cells + rm.cells) (slots + rm.slots) → Qc v T'.heap L' → Go p e below s Q kC kS T' (mkF m pc' Ls (v.toList ++ rest))) : Go p e below s Q kC kS T (mkF m pc Ls St) := by
  obtain ⟨cq, q1, q2⟩ := E.cell
  obtain ⟨v, _, ⟨T', L', k', n'⟩, -, X', ⟨Lc, hQ, l', y', z'⟩, st⟩ := X.privateBack C.1 (y := y) C.2.2.2.2.1 (mvT C.2.1 w1) (mvT C.2.1 w2) (mvT C.2.1 w3) (Cond.privateMethod_at (mvP C.2.1 w4 (args := #[]))) (mvT C.2.1 w5) hy (backOf (W := W) hM C.2.1 w5 w6 hf hl) (g := mkF m pc Ls St) rfl (hsz.trans C.2.2.2.1.symm) (Steps.refl _) (a := a) (by rw [eT]; exact q1) q2 (argsL := argsL) (rest := rest) hlen hst (by show 2 * 0 + _ ≤ _; simpa using hW) (hb C.2.2.1 hd.1) (fun _ _ => ⟨has.symm, eT, hc, hs⟩)
  dsimp only [Pt.U, Pt.locs, Pt.cells, Pt.slots] at X' l' y' z' st hQ
  subst l' y' z'
  have k := K v T' Lc X' hQ
  rw [hd.2] at k
  exact Go.step (fun t k => st.trans k) k
theorem wprivateI (C : Cur p l e s m meth c Z bc ml own nm rt) (X : Stand p l e R s m args below meth c T locs cells slots) {y : MethodName} {bytes : ByteArray} {maxL : Nat} {ret : Option FieldType} {rm : Room} {as' : Array Value} {Qc : Option Value → Heap → List Loc → Prop} {index : Nat} (w1 : (Jvm.Cond.methodLink own index y).before a0 Z = true) (w2 : (Jvm.Cond.instanceMethod y).before a0 Z = true) {nI : Nat} (w3 : (Jvm.Cond.instantiable y.cls nI).before a0 Z = true) (w4 : (Jvm.Cond.privateMethod y).before a0 Z = true) (w5 : (Jvm.Cond.code y bytes maxL ret).before a0 Z = true) (w6 : (Jvm.Cond.initialized y.cls).before a0 Z = true) (hy : y.cls ≠ "java/lang/invoke/MethodHandle" ∧ y.cls ≠ "java/lang/invoke/VarHandle")
    (hM : MetFree l y (head1 [Jvm.Cond.code y bytes maxL ret] rm) (fun a U => a = as' ∧ Z.Warmed39 U.vm ∧ U.heap = h) (fun _ _ _ _ _ => True) (fun _ U o U' => ∃ v L, o = .returned v ∧ Qc v U'.heap L ∧ FrameEnd U o U' L rm.cells rm.slots)) (eT : T.heap = h) {a : Addr} {C0 : String} (E : Exa Z h a C0) (hd : Dec bc pc (.invokevirtual index) 3 pc') {argsL rest St : List Value} (has : as' = (.ref a :: argsL).toArray) (hst : St = argsL.reverse ++ .ref a :: rest) (hlen : ∀ sig, parseMethodDescriptor y.desc = some sig → argsL.length = sig.parameters.length) (hsz : Ls.size = ml) {W : Nat} (hW : (rest.map fun v => v.category).sum ≤ W) (hf : rm.frames + 1 ≤ R.frames) (hl : W + (maxL + 11) + rm.locals ≤ R.locals) (hc : cells + rm.cells ≤ R.cells) (hs : slots + rm.slots ≤ R.slots)
    (K : ∀ (v : Option Value) (T' : State) (L' : List Loc), Stand p l e R s m args below meth c T' (locs ++ L') (cells + rm.cells) (slots + rm.slots) → Qc v T'.heap L' → Go p e below s Q kC kS T' (mkF m pc' Ls (v.toList ++ rest))) : Go p e below s Q kC kS T (mkF m pc Ls St) := by
  obtain ⟨cq, q1, q2⟩ := E.cell
  obtain ⟨v, _, ⟨T', L', k', n'⟩, -, X', ⟨Lc, hQ, l', y', z'⟩, st⟩ := X.privateBack C.1 (y := y) C.2.2.2.2.1 (mvT C.2.1 w1) (mvT C.2.1 w2) (own_selp C.2.1 w3 w4 w2 hy) (Cond.privateMethod_at (mvP C.2.1 w4 (args := #[]))) (mvT C.2.1 w5) hy (backOf (W := W) hM C.2.1 w5 w6 hf hl) (g := mkF m pc Ls St) rfl (hsz.trans C.2.2.2.1.symm) (Steps.refl _) (a := a) (by rw [eT]; exact q1) q2 (argsL := argsL) (rest := rest) hlen hst (by show 2 * 0 + _ ≤ _; simpa using hW) (hb C.2.2.1 hd.1) (fun _ _ => ⟨has.symm, eT, hc, hs⟩)
  dsimp only [Pt.U, Pt.locs, Pt.cells, Pt.slots] at X' l' y' z' st hQ
  subst l' y' z'
  have k := K v T' Lc X' hQ
  rw [hd.2] at k
  exact Go.step (fun t k => st.trans k) k
theorem wstatic (C : Cur p l e s m meth c Z bc ml own nm rt) (X : Stand p l e R s m args below meth c T locs cells slots) {y : MethodName} {bytes : ByteArray} {maxL : Nat} {ret : Option FieldType} {rm : Room} {as' : Array Value} {Qc : Option Value → Heap → List Loc → Prop} {index : Nat} (w1 : (Jvm.Cond.methodLink own index y).before a0 Z = true) (w2 : (Jvm.Cond.static y).before a0 Z = true) (w3 : (Jvm.Cond.initialized y.cls).before a0 Z = true) (w4 : (Jvm.Cond.code y bytes maxL ret).before a0 Z = true) (hy : y.cls ≠ "java/lang/invoke/MethodHandle" ∧ y.cls ≠ "java/lang/invoke/VarHandle")
    (hM : MetFree l y (head1 [Jvm.Cond.code y bytes maxL ret] rm) (fun a U => a = as' ∧ Z.Warmed39 U.vm ∧ U.heap = h) (fun _ _ _ _ _ => True) (fun _ U o U' => ∃ v L, o = .returned v ∧ Qc v U'.heap L ∧ FrameEnd U o U' L rm.cells rm.slots)) (eT : T.heap = h) (hd : Dec bc pc (.invokestatic index) 3 pc') {argsL rest St : List Value} (has : as' = argsL.toArray) (hst : St = argsL.reverse ++ rest) (hlen : ∀ sig, parseMethodDescriptor y.desc = some sig → argsL.length = sig.parameters.length) (hsz : Ls.size = ml) {W : Nat} (hW : (rest.map fun v => v.category).sum ≤ W) (hf : rm.frames + 1 ≤ R.frames) (hl : W + (maxL + 11) + rm.locals ≤ R.locals) (hc : cells + rm.cells ≤ R.cells) (hs : slots + rm.slots ≤ R.slots)
    (K : ∀ (v : Option Value) (T' : State) (L' : List Loc), Stand p l e R s m args below meth c T' (locs ++ L') (cells + rm.cells) (slots + rm.slots) → Qc v T'.heap L' → Go p e below s Q kC kS T' (mkF m pc' Ls (v.toList ++ rest))) : Go p e below s Q kC kS T (mkF m pc Ls St) := by
  obtain ⟨v, _, ⟨T', L', k', n'⟩, -, X', ⟨Lc, hQ, l', y', z'⟩, st⟩ := Jvm.LawKit.callS X C.1 (y := y) C.2.2.2.2.1 (mvT C.2.1 w1) (mvT C.2.1 w2) (mvT C.2.1 w3) (mvT C.2.1 w4) hy (backOf (W := W) hM C.2.1 w4 w3 hf hl) (g := mkF m pc Ls St) rfl (hsz.trans C.2.2.2.1.symm) (argsL := argsL) (rest := rest) hlen hst (by show 2 * 0 + _ ≤ _; simpa using hW) (hb C.2.2.1 hd.1) (fun _ _ => ⟨has.symm, eT, hc, hs⟩)
  dsimp only [Pt.U, Pt.locs, Pt.cells, Pt.slots] at X' l' y' z' st hQ
  subst l' y' z'
  have k := K v T' Lc X' hQ
  rw [hd.2] at k
  exact Go.step (st) k
theorem Go.mono {Q' : Option Value → Heap → List Loc → Prop} {f : JFrame} (g : Go p e below s Q kC kS T f) (q : ∀ v h L, Q v h L → Q' v h L) : Go p e below s Q' kC kS T f := by
  obtain ⟨s₂, o, h1, h2, h3, v, L, h4, h5, h6⟩ := g; exact ⟨s₂, o, h1, h2, h3, v, L, h4, q _ _ _ h5, h6⟩
theorem wldcI (C : Cur p l e s m meth c Z bc ml own nm rt) (X : Stand p l e R s m args below meth c T locs cells slots) {index : Nat} {b : Int32} (w : (Jvm.Cond.constant own index b).before a0 Z = true) (hd : Dec bc pc (.ldc index) 2 pc') (g : Go p e below s Q kC kS T (mkF m pc' Ls (.int b :: S))) : Go p e below s Q kC kS T (mkF m pc Ls S) := by
  rw [hd.2] at g
  exact Go.step (X.ldcInt C.1 C.2.2.2.2.1 (mvT C.2.1 w) (g := mkF m pc Ls S) rfl (hb C.2.2.1 hd.1)) g
theorem wldcwI (C : Cur p l e s m meth c Z bc ml own nm rt) (X : Stand p l e R s m args below meth c T locs cells slots) {index : Nat} {b : Int32} (w : (Jvm.Cond.constant own index b).before a0 Z = true) (hd : Dec bc pc (.ldc_w index) 3 pc') (g : Go p e below s Q kC kS T (mkF m pc' Ls (.int b :: S))) : Go p e below s Q kC kS T (mkF m pc Ls S) := by
  rw [hd.2] at g
  exact Go.step (X.ldcwInt C.1 C.2.2.2.2.1 (mvT C.2.1 w) (g := mkF m pc Ls S) rfl (hb C.2.2.1 hd.1)) g
theorem wldc2J (C : Cur p l e s m meth c Z bc ml own nm rt) (X : Stand p l e R s m args below meth c T locs cells slots) {index : Nat} {b : Int64} (w : (Jvm.Cond.constantLong own index b).before a0 Z = true) (hd : Dec bc pc (.ldc2_w index) 3 pc') (g : Go p e below s Q kC kS T (mkF m pc' Ls (.long b :: S))) : Go p e below s Q kC kS T (mkF m pc Ls S) := by
  rw [hd.2] at g
  exact Go.step (X.ldc2Long C.1 C.2.2.2.2.1 (mvT C.2.1 w) (g := mkF m pc Ls S) rfl (hb C.2.2.1 hd.1)) g
theorem wldc2D (C : Cur p l e s m meth c Z bc ml own nm rt) (X : Stand p l e R s m args below meth c T locs cells slots) {index : Nat} {b : UInt64} (w : (Jvm.Cond.constantDouble own index b).before a0 Z = true) (hd : Dec bc pc (.ldc2_w index) 3 pc') (g : Go p e below s Q kC kS T (mkF m pc' Ls (.double b :: S))) : Go p e below s Q kC kS T (mkF m pc Ls S) := by
  rw [hd.2] at g
  exact Go.step (X.ldc2DoubleC C.1 C.2.2.2.2.1 (mvT C.2.1 w) (g := mkF m pc Ls S) rfl (hb C.2.2.1 hd.1)) g
theorem wmaxD (C : Cur p l e s m meth c Z bc ml own nm rt) (X : Stand p l e R s m args below meth c T locs cells slots) {index : Nat} {x y : UInt64} (w1 : (Jvm.Cond.methodLink own index Jvm.Free.Fl.Abs.maxDN).before a0 Z = true) (w2 : (Jvm.Cond.static Jvm.Free.Fl.Abs.maxDN).before a0 Z = true) (w3 : (Jvm.Cond.initialized Jvm.Free.Fl.Abs.maxDN.cls).before a0 Z = true) (w4 : (Jvm.Cond.code Jvm.Free.Fl.Abs.maxDN Jvm.Free.Fl.Abs.maxDCode 4 (some .double)).before a0 Z = true)
    (eT : T.heap = h) (hd : Dec bc pc (.invokestatic index) 3 pc') (nx : Jvm.Free.Fl.NoNaN64 x) (ny : Jvm.Free.Fl.NoNaN64 y) (hsz : Ls.size = ml) {W : Nat} (hW : (S.map fun v => v.category).sum ≤ W) (hf : 1 ≤ R.frames) (hl : W + 15 ≤ R.locals) (hc : cells ≤ R.cells) (hs : slots ≤ R.slots)
    (K : ∀ T' : State, Stand p l e R s m args below meth c T' locs cells slots → T'.heap = h → Go p e below s Q kC kS T' (mkF m pc' Ls (.double (Jvm.Native.java_lang_Math.nans.pick64 true x y) :: S))) : Go p e below s Q kC kS T (mkF m pc Ls (.double y :: .double x :: S)) := by
  obtain ⟨T', X', e', st⟩ := natS X C.1 C.2.1 C.2.2.2.2.1 w1 w2 w3 w4 (by decide) eT (W := W) (F := fun a' => a' = #[.double x, .double y] ∧ Jvm.Free.Fl.NoNaN64 x ∧ Jvm.Free.Fl.NoNaN64 y) (fun c4 => Jvm.Free.Fl.Abs.maxD_pays x y c4 hf hl) (g := mkF m pc Ls (.double y :: .double x :: S)) rfl (hsz.trans C.2.2.2.1.symm) (argsL := [.double x, .double y]) (rest := S) (lenOf (show parseMethodDescriptor "(DD)D" = some ⟨[.double, .double], some .double⟩ by decide +kernel) rfl) rfl (by show 2 * 0 + _ ≤ _; simpa using hW) (hb C.2.2.1 hd.1) hc hs ⟨rfl, nx, ny⟩ rfl
  have k := K T' X' e'
  rw [hd.2] at k
  exact Go.step st k
end Kit
section Kit2
variable {p : Program} {e : Env} {below : List Frame} {s : State} {Q : Option Value → Heap → List Loc → Prop} {kC kS : Nat} {T : State} {m : MethodId} {pc : Nat} {Ls : Array Slot} {S : List Value}
theorem own_foldI {x z : Int32} (q : x = z) (g : Go p e below s Q kC kS T (mkF m pc Ls (.int z :: S))) : Go p e below s Q kC kS T (mkF m pc Ls (.int x :: S)) := q ▸ g
theorem own_foldJ {x z : Int64} (q : x = z) (g : Go p e below s Q kC kS T (mkF m pc Ls (.long z :: S))) : Go p e below s Q kC kS T (mkF m pc Ls (.long x :: S)) := q ▸ g
theorem own_foldD {x z : UInt64} (q : x = z) (g : Go p e below s Q kC kS T (mkF m pc Ls (.double z :: S))) : Go p e below s Q kC kS T (mkF m pc Ls (.double x :: S)) := q ▸ g
end Kit2
theorem tw_0 {Z : State} {a0 : Array Value} (hw : ∀ d ∈ tables_1, d.before a0 Z = true) : (Jvm.Cond.arrayClass Jvm.ClassFile.FieldType.double).before a0 Z = true := hw _ (List.mem_of_getElem? (i := 0) rfl)
theorem tw_1 {Z : State} {a0 : Array Value} (hw : ∀ d ∈ tables_1, d.before a0 Z = true) : (Jvm.Cond.arrayClass Jvm.ClassFile.FieldType.boolean).before a0 Z = true := hw _ (List.mem_of_getElem? (i := 1) rfl)
theorem tw_2 {Z : State} {a0 : Array Value} (hw : ∀ d ∈ tables_1, d.before a0 Z = true) : (Jvm.Cond.methodLink "com/example/hornwork/hornwork/SumsTotalWithPinLaw" (7 : Nat) ({ cls := "com/example/hornwork/hornwork/Sums", name := "totalWith", desc := "([D[ZI)D" } : Jvm.MethodName)).before a0 Z = true := hw _ (List.mem_of_getElem? (i := 2) rfl)
theorem tw_3 {Z : State} {a0 : Array Value} (hw : ∀ d ∈ tables_1, d.before a0 Z = true) : (Jvm.Cond.static ({ cls := "com/example/hornwork/hornwork/Sums", name := "totalWith", desc := "([D[ZI)D" } : Jvm.MethodName)).before a0 Z = true := hw _ (List.mem_of_getElem? (i := 3) rfl)
theorem tw_4 {Z : State} {a0 : Array Value} (hw : ∀ d ∈ tables_1, d.before a0 Z = true) : (Jvm.Cond.initialized "com/example/hornwork/hornwork/Sums").before a0 Z = true := hw _ (List.mem_of_getElem? (i := 4) rfl)
theorem tw_5 {Z : State} {a0 : Array Value} (hw : ∀ d ∈ tables_1, d.before a0 Z = true) : (Jvm.Cond.code ({ cls := "com/example/hornwork/hornwork/Sums", name := "totalWith", desc := "([D[ZI)D" } : Jvm.MethodName) prog_37_method_4_code (6 : Nat) (Option.some Jvm.ClassFile.FieldType.double)).before a0 Z = true := hw _ (List.mem_of_getElem? (i := 5) rfl)
theorem pd_0 : parseMethodDescriptor "([D[ZI)D" = some ⟨[(.array .double), (.array .boolean), .int], some .double⟩ := by decide +kernel
theorem bp_b_8 : (Int8.ofInt 8).toInt32 = (8 : Int32) := by decide +kernel
theorem own_nn {i : Int} {a : UInt64} (h : FP.Core.DInt i a) : Jvm.Free.Fl.NoNaN64 a := Jvm.Free.Fl.val64_no.mpr (FP.Core.DInt_ne_nan h)
theorem own_cv {i j : Int} {a b : UInt64} (ha : FP.Core.DInt i a) (hb : FP.Core.DInt j b) (o : CmpOp) : cmpValue (FP.dcmp a b) o = if i < j then -1 else if i = j then 0 else 1 := by
  have h : FP.dcmp a b = some (compare i j) := FP.Core.dcmp_int ha hb
  rw [h]
  simp only [compare, compareOfLessAndEq]
  split
  · rfl
  · split <;> rfl
theorem own_lt {i j : Int} {a b : UInt64} (ha : FP.Core.DInt i a) (hb : FP.Core.DInt j b) (o : CmpOp) : cmpValue (FP.dcmp a b) o < (0 : Int32) ↔ i < j := by
  rw [own_cv ha hb]
  split
  · exact ⟨fun _ => by assumption, fun _ => by decide⟩
  · split
    · exact ⟨fun q => absurd q (by decide), fun q => by omega⟩
    · exact ⟨fun q => absurd q (by decide), fun q => by omega⟩
theorem own_eq {i j : Int} {a b : UInt64} (ha : FP.Core.DInt i a) (hb : FP.Core.DInt j b) (o : CmpOp) : cmpValue (FP.dcmp a b) o = (0 : Int32) ↔ i = j := by
  rw [own_cv ha hb]
  split
  · exact ⟨fun q => absurd q (by decide), fun q => by omega⟩
  · split
    · exact ⟨fun _ => by assumption, fun _ => by decide⟩
    · exact ⟨fun q => absurd q (by decide), fun q => by omega⟩
theorem own_gt {i j : Int} {a b : UInt64} (ha : FP.Core.DInt i a) (hb : FP.Core.DInt j b) (o : CmpOp) : (0 : Int32) < cmpValue (FP.dcmp a b) o ↔ j < i := by
  rw [own_cv ha hb]
  split
  · exact ⟨fun q => absurd q (by decide), fun q => by omega⟩
  · split
    · exact ⟨fun q => absurd q (by decide), fun q => by omega⟩
    · exact ⟨fun _ => by omega, fun _ => by decide⟩
theorem own_i2d (a : Int32) : FP.Core.DInt a.toInt (FP.i2d a) := FP.Core.i2d_int a
theorem own_l2d {a : Int64} (h : a.toInt.natAbs ≤ 2 ^ 53) : FP.Core.DInt a.toInt (FP.l2d a) := FP.Core.l2d_int h
theorem own_neg {i : Int} {a : UInt64} (h : FP.Core.DInt i a) : FP.Core.DInt (-i) (FP.dneg a) := by
  show FP.Core.Whole (-i) (FP.Core.val64 (FP.dneg a))
  rw [FP.val64_dneg]; exact FP.Core.whole_negate h
def own_ok (k : Nat) (v : UInt64) : Prop := ∃ i : Int, FP.Core.DInt i v ∧ i.natAbs ≤ k * 2147483648
theorem own_ok_nn {k : Nat} {v : UInt64} (h : own_ok k v) : Jvm.Free.Fl.NoNaN64 v := by obtain ⟨i, h, -⟩ := h; exact own_nn h
theorem own_ok_i (a : Int32) : own_ok 1 (FP.i2d a) := ⟨_, own_i2d a, by have := rng32 a; omega⟩
theorem own_ok_0 : own_ok 0 FP.dconst0 := ⟨0, own_i2d 0, by decide⟩
theorem own_ok_add {k : Nat} {u v : UInt64} (h : own_ok k u) (h' : own_ok 1 v) (hk : k ≤ 8) : own_ok (k + 1) (FP.dadd u v) := by
  obtain ⟨i, hi, bi⟩ := h
  obtain ⟨j, hj, bj⟩ := h'
  exact ⟨i + j, FP.Core.dadd_int hi hj (by omega), by omega⟩
theorem own_ok_up {k : Nat} {u : UInt64} (h : own_ok k u) : own_ok (k + 1) u := by obtain ⟨i, hi, bi⟩ := h; exact ⟨i, hi, Nat.le_trans bi (Nat.mul_le_mul_right _ (Nat.le_succ k))⟩
def own_st (f i also : Int32) (acc t : UInt64) : UInt64 := if f = 0 then (if also = i then FP.dadd acc t else acc) else FP.dadd acc t
theorem own_st_ok {k : Nat} {f i also : Int32} {acc t : UInt64} (h : own_ok k acc) (h' : own_ok 1 t) (hk : k ≤ 8) : own_ok (k + 1) (own_st f i also acc t) := by
  unfold own_st
  split
  · split
    · exact own_ok_add h h' hk
    · exact own_ok_up h
  · exact own_ok_add h h' hk
def own_tot (f0 f1 f2 also : Int32) (t0 t1 t2 : UInt64) : UInt64 := own_st f2 2 also (own_st f1 1 also (own_st f0 0 also FP.dconst0 t0) t1) t2
theorem own_tot_ok {f0 f1 f2 also : Int32} {t0 t1 t2 : UInt64} (h0 : own_ok 1 t0) (h1 : own_ok 1 t1) (h2 : own_ok 1 t2) : own_ok 3 (own_tot f0 f1 f2 also t0 t1 t2) :=
  own_st_ok (own_st_ok (own_st_ok own_ok_0 h0 (by decide)) h1 (by decide)) h2 (by decide)
theorem own_nar {f : Int32} (h : f = 0 ∨ f = 1) : nar .boolean f = f := by rcases h with rfl | rfl <;> decide
theorem f1_0 : Dec prog_37_method_4_code 0 (.dconst 0) 1 1 := ⟨by decide +kernel, rfl⟩
theorem f1_1 : Dec prog_37_method_4_code 1 (.dstore_n 3) 1 2 := ⟨by decide +kernel, rfl⟩
theorem f1_2 : Dec prog_37_method_4_code 2 (.iconst 0) 1 3 := ⟨by decide +kernel, rfl⟩
theorem f1_3 : Dec prog_37_method_4_code 3 (.istore 5) 2 5 := ⟨by decide +kernel, rfl⟩
theorem f1_5 : Dec prog_37_method_4_code 5 (.iload 5) 2 7 := ⟨by decide +kernel, rfl⟩
theorem f1_7 : Dec prog_37_method_4_code 7 (.aload_n 0) 1 8 := ⟨by decide +kernel, rfl⟩
theorem f1_8 : Dec prog_37_method_4_code 8 (.arraylength) 1 9 := ⟨by decide +kernel, rfl⟩
theorem f1_9 : DecJ prog_37_method_4_code 9 (.if_icmp .ge 29) 29 38 12 := ⟨by decide +kernel, by decide, by decide, rfl⟩
theorem f1_12 : Dec prog_37_method_4_code 12 (.aload_n 1) 1 13 := ⟨by decide +kernel, rfl⟩
theorem f1_13 : Dec prog_37_method_4_code 13 (.iload 5) 2 15 := ⟨by decide +kernel, rfl⟩
theorem f1_15 : Dec prog_37_method_4_code 15 (.baload) 1 16 := ⟨by decide +kernel, rfl⟩
theorem f1_16 : DecJ prog_37_method_4_code 16 (.ifCond .ne 9) 9 25 19 := ⟨by decide +kernel, by decide, by decide, rfl⟩
theorem f1_19 : Dec prog_37_method_4_code 19 (.iload 5) 2 21 := ⟨by decide +kernel, rfl⟩
theorem f1_21 : Dec prog_37_method_4_code 21 (.iload_n 2) 1 22 := ⟨by decide +kernel, rfl⟩
theorem f1_22 : DecJ prog_37_method_4_code 22 (.if_icmp .ne 10) 10 32 25 := ⟨by decide +kernel, by decide, by decide, rfl⟩
theorem f1_25 : Dec prog_37_method_4_code 25 (.dload_n 3) 1 26 := ⟨by decide +kernel, rfl⟩
theorem f1_26 : Dec prog_37_method_4_code 26 (.aload_n 0) 1 27 := ⟨by decide +kernel, rfl⟩
theorem f1_27 : Dec prog_37_method_4_code 27 (.iload 5) 2 29 := ⟨by decide +kernel, rfl⟩
theorem f1_29 : Dec prog_37_method_4_code 29 (.daload) 1 30 := ⟨by decide +kernel, rfl⟩
theorem f1_30 : Dec prog_37_method_4_code 30 (.dadd) 1 31 := ⟨by decide +kernel, rfl⟩
theorem f1_31 : Dec prog_37_method_4_code 31 (.dstore_n 3) 1 32 := ⟨by decide +kernel, rfl⟩
theorem f1_32 : Dec prog_37_method_4_code 32 (.iinc 5 1) 3 35 := ⟨by decide +kernel, rfl⟩
theorem f1_35 : DecJ prog_37_method_4_code 35 (.goto (-30)) (-30) 5 38 := ⟨by decide +kernel, by decide, by decide, rfl⟩
theorem f1_38 : Dec prog_37_method_4_code 38 (.dload_n 3) 1 39 := ⟨by decide +kernel, rfl⟩
theorem f1_39 : Dec prog_37_method_4_code 39 (.dreturn) 1 40 := ⟨by decide +kernel, rfl⟩
theorem pn_1 : plainFor (⟨"com/example/hornwork/hornwork/Sums", "totalWith", "([D[ZI)D"⟩ : MethodName) = true := plainFor_of_name (show plainName "com/example/hornwork/hornwork/Sums" = true by first | (simp [plainName, overriddenIn]; done) | decide +kernel)
theorem ef_1 (m : MethodId) (ta : Addr) (tb : Addr) (al : Int32) : entryFrame m #[(.ref ta), (.ref tb), (.int al)] 6 = mkF m 0 #[.val (.ref ta), .val (.ref tb), .val (.int al), .unset, .unset, .unset] [] := by first | (simp [entryFrame, mkF, argsToLocals, Value.category]; done) | rfl
def Q1 (Z : State) (ta : Addr) (tb : Addr) (al : Int32) (k1 : ClassId) (k2 : ClassId) (t0 : UInt64) (t1 : UInt64) (t2 : UInt64) (f0 : Int32) (f1 : Int32) (f2 : Int32) (h0 : Heap) (n0 : Nat) (v9 : Option Value) (h9 : Heap) (L9 : List Loc) : Prop := v9 = some (.double (own_tot f0 f1 f2 al t0 t1 t2)) ∧ Fr n0 L9 ∧ h9 = h0
set_option maxRecDepth 65536 in
set_option maxHeartbeats 40000000 in
theorem rm1 (l : Launch) (Z : State) (a0 : Array Value) (hw : ∀ d ∈ tables_1, d.before a0 Z = true) (ws : List Jvm.Cond) (ta : Addr) (tb : Addr) (al : Int32) (k1 : ClassId) (k2 : ClassId) (t0 : UInt64) (t1 : UInt64) (t2 : UInt64) (f0 : Int32) (f1 : Int32) (f2 : Int32) (h0 : Heap) (n0 : Nat) (Z0 : n0 ≤ h0.size) (Arv_0 : Arv Z h0 ta k1 .double (3 : Int32) [(.double t0), (.double t1), (.double t2)] (.double (0 : UInt64))) (Arv_1 : Arv Z h0 tb k2 .boolean (3 : Int32) [(.int f0), (.int f1), (.int f2)] (.int (0 : Int32))) (ok0 : own_ok 1 t0) (ok1 : own_ok 1 t1) (ok2 : own_ok 1 t2) :
    MetFree l (⟨"com/example/hornwork/hornwork/Sums", "totalWith", "([D[ZI)D"⟩ : MethodName) (head1 (Jvm.Cond.code (⟨"com/example/hornwork/hornwork/Sums", "totalWith", "([D[ZI)D"⟩ : MethodName) prog_37_method_4_code 6 (some .double) :: ws) ({ frames := 0, cells := 0, slots := 0, locals := 0 } : Room)) (fun A9 U9 => A9 = #[(.ref ta), (.ref tb), (.int al)] ∧ Z.Warmed39 U9.vm ∧ U9.heap = h0) (fun _ _ _ _ _ => True) (fun _ U9 o9 V9 => ∃ v9 L9, o9 = .returned v9 ∧ (Q1 Z ta tb al k1 k2 t0 t1 t2 f0 f1 f2 h0 n0) v9 V9.heap L9 ∧ FrameEnd U9 o9 V9 L9 ({ frames := 0, cells := 0, slots := 0, locals := 0 } : Room).cells ({ frames := 0, cells := 0, slots := 0, locals := 0 } : Room).slots) := by
  refine met_of (Q := (Q1 Z ta tb al k1 k2 t0 t1 t2 f0 f1 f2 h0 n0)) pn_1 ?_
  intro p e s m below meth c T0 C X0 e0
  have N0 := Fr.nil n0
  refine Go.cast (ef_1 m ta tb al) ?_
  refine wdconst0 C X0 f1_0 ?_
  refine wdstoreN C X0 f1_1 #[.val (.ref ta), .val (.ref tb), .val (.int al), .val (.double FP.dconst0), .second, .unset] rfl ?_
  refine wiconst C X0 f1_2 (0 : Int32) rfl ?_
  refine wistore C X0 f1_3 #[.val (.ref ta), .val (.ref tb), .val (.int al), .val (.double FP.dconst0), .second, .val (.int (0 : Int32))] rfl ?_
  refine wiload C X0 f1_5 rfl ?_
  refine waloadN C X0 f1_7 rfl rfl ?_
  refine walen C X0 e0 Arv_0 f1_8 ?_
  refine wicmp_ge C X0 f1_9 ?_ (fun q => absurd (by decide : ((0 : Int32) < (3 : Int32))) q)
  intro _
  have J1 : ∀ (acc1 : UInt64), (acc1 = (own_st f0 (0 : Int32) al FP.dconst0 t0)) → Go p e below s (Q1 Z ta tb al k1 k2 t0 t1 t2 f0 f1 f2 h0 n0) ({ frames := 0, cells := 0, slots := 0, locals := 0 } : Room).cells ({ frames := 0, cells := 0, slots := 0, locals := 0 } : Room).slots T0 (mkF m 32 #[.val (.ref ta), .val (.ref tb), .val (.int al), .val (.double acc1), .second, .val (.int (0 : Int32))] []) := by
    intro acc1 eacc1
    subst eacc1
    refine wiinc C X0 f1_32 (1 : Int32) (by decide) rfl #[.val (.ref ta), .val (.ref tb), .val (.int al), .val (.double (own_st f0 (0 : Int32) al FP.dconst0 t0)), .second, .val (.int (1 : Int32))] rfl ?_
    refine wgoto C X0 f1_35 ?_
    refine wiload C X0 f1_5 rfl ?_
    refine waloadN C X0 f1_7 rfl rfl ?_
    refine walen C X0 e0 Arv_0 f1_8 ?_
    refine wicmp_ge C X0 f1_9 ?_ (fun q => absurd (by decide : ((1 : Int32) < (3 : Int32))) q)
    intro _
    have J2 : ∀ (acc2 : UInt64), (acc2 = (own_st f1 (1 : Int32) al (own_st f0 (0 : Int32) al FP.dconst0 t0) t1)) → Go p e below s (Q1 Z ta tb al k1 k2 t0 t1 t2 f0 f1 f2 h0 n0) ({ frames := 0, cells := 0, slots := 0, locals := 0 } : Room).cells ({ frames := 0, cells := 0, slots := 0, locals := 0 } : Room).slots T0 (mkF m 32 #[.val (.ref ta), .val (.ref tb), .val (.int al), .val (.double acc2), .second, .val (.int (1 : Int32))] []) := by
      intro acc2 eacc2
      subst eacc2
      refine wiinc C X0 f1_32 (2 : Int32) (by decide) rfl #[.val (.ref ta), .val (.ref tb), .val (.int al), .val (.double (own_st f1 (1 : Int32) al (own_st f0 (0 : Int32) al FP.dconst0 t0) t1)), .second, .val (.int (2 : Int32))] rfl ?_
      refine wgoto C X0 f1_35 ?_
      refine wiload C X0 f1_5 rfl ?_
      refine waloadN C X0 f1_7 rfl rfl ?_
      refine walen C X0 e0 Arv_0 f1_8 ?_
      refine wicmp_ge C X0 f1_9 ?_ (fun q => absurd (by decide : ((2 : Int32) < (3 : Int32))) q)
      intro _
      have J3 : ∀ (acc3 : UInt64), (acc3 = (own_st f2 (2 : Int32) al (own_st f1 (1 : Int32) al (own_st f0 (0 : Int32) al FP.dconst0 t0) t1) t2)) → Go p e below s (Q1 Z ta tb al k1 k2 t0 t1 t2 f0 f1 f2 h0 n0) ({ frames := 0, cells := 0, slots := 0, locals := 0 } : Room).cells ({ frames := 0, cells := 0, slots := 0, locals := 0 } : Room).slots T0 (mkF m 32 #[.val (.ref ta), .val (.ref tb), .val (.int al), .val (.double acc3), .second, .val (.int (2 : Int32))] []) := by
        intro acc3 eacc3
        subst eacc3
        refine wiinc C X0 f1_32 (3 : Int32) (by decide) rfl #[.val (.ref ta), .val (.ref tb), .val (.int al), .val (.double (own_st f2 (2 : Int32) al (own_st f1 (1 : Int32) al (own_st f0 (0 : Int32) al FP.dconst0 t0) t1) t2)), .second, .val (.int (3 : Int32))] rfl ?_
        refine wgoto C X0 f1_35 ?_
        refine wiload C X0 f1_5 rfl ?_
        refine waloadN C X0 f1_7 rfl rfl ?_
        refine walen C X0 e0 Arv_0 f1_8 ?_
        refine wicmp_ge C X0 f1_9 (fun q => absurd q (by decide : ¬ ((3 : Int32) < (3 : Int32)))) ?_
        intro _
        refine wdloadN C X0 f1_38 rfl ?_
        refine wdret C X0 f1_39 rfl (by decide) (by decide) ?_
        rw [e0]
        exact ⟨rfl, N0, rfl⟩
      refine waloadN C X0 f1_12 rfl rfl ?_
      refine wiload C X0 f1_13 rfl ?_
      refine wbaloadZ C X0 e0 Arv_1 f1_15 ⟨by decide, by decide⟩ (i := 2) rfl (v := f2) rfl ?_
      refine wif_ne C X0 f1_16 (fun hc16 => ?_) (fun hc16 => ?_)
      · refine wiload C X0 f1_19 rfl ?_
        refine wiloadN C X0 f1_21 rfl ?_
        refine wicmp_ne C X0 f1_22 (fun hc22 => ?_) (fun hc22 => ?_)
        · refine wdloadN C X0 f1_25 rfl ?_
          refine waloadN C X0 f1_26 rfl rfl ?_
          refine wiload C X0 f1_27 rfl ?_
          refine wdaload C X0 e0 Arv_0 f1_29 ⟨by decide, by decide⟩ (i := 2) rfl (v := t2) rfl ?_
          refine wdadd C X0 f1_30 (v := (FP.dadd (own_st f1 (1 : Int32) al (own_st f0 (0 : Int32) al FP.dconst0 t0) t1) t2)) rfl (own_ok_nn (own_ok_add (own_st_ok (own_st_ok own_ok_0 ok0 (by decide)) ok1 (by decide)) ok2 (by decide))) ?_
          refine wdstoreN C X0 f1_31 #[.val (.ref ta), .val (.ref tb), .val (.int al), .val (.double (FP.dadd (own_st f1 (1 : Int32) al (own_st f0 (0 : Int32) al FP.dconst0 t0) t1) t2)), .second, .val (.int (2 : Int32))] rfl ?_
          exact J3 (FP.dadd (own_st f1 (1 : Int32) al (own_st f0 (0 : Int32) al FP.dconst0 t0) t1) t2) (((if_pos hc16).trans (if_pos hc22.symm)).symm)
        · exact J3 (own_st f1 (1 : Int32) al (own_st f0 (0 : Int32) al FP.dconst0 t0) t1) (((if_pos hc16).trans (if_neg (fun q => hc22 q.symm))).symm)
      · refine wdloadN C X0 f1_25 rfl ?_
        refine waloadN C X0 f1_26 rfl rfl ?_
        refine wiload C X0 f1_27 rfl ?_
        refine wdaload C X0 e0 Arv_0 f1_29 ⟨by decide, by decide⟩ (i := 2) rfl (v := t2) rfl ?_
        refine wdadd C X0 f1_30 (v := (FP.dadd (own_st f1 (1 : Int32) al (own_st f0 (0 : Int32) al FP.dconst0 t0) t1) t2)) rfl (own_ok_nn (own_ok_add (own_st_ok (own_st_ok own_ok_0 ok0 (by decide)) ok1 (by decide)) ok2 (by decide))) ?_
        refine wdstoreN C X0 f1_31 #[.val (.ref ta), .val (.ref tb), .val (.int al), .val (.double (FP.dadd (own_st f1 (1 : Int32) al (own_st f0 (0 : Int32) al FP.dconst0 t0) t1) t2)), .second, .val (.int (2 : Int32))] rfl ?_
        exact J3 (FP.dadd (own_st f1 (1 : Int32) al (own_st f0 (0 : Int32) al FP.dconst0 t0) t1) t2) ((if_neg hc16).symm)
    refine waloadN C X0 f1_12 rfl rfl ?_
    refine wiload C X0 f1_13 rfl ?_
    refine wbaloadZ C X0 e0 Arv_1 f1_15 ⟨by decide, by decide⟩ (i := 1) rfl (v := f1) rfl ?_
    refine wif_ne C X0 f1_16 (fun hc16 => ?_) (fun hc16 => ?_)
    · refine wiload C X0 f1_19 rfl ?_
      refine wiloadN C X0 f1_21 rfl ?_
      refine wicmp_ne C X0 f1_22 (fun hc22 => ?_) (fun hc22 => ?_)
      · refine wdloadN C X0 f1_25 rfl ?_
        refine waloadN C X0 f1_26 rfl rfl ?_
        refine wiload C X0 f1_27 rfl ?_
        refine wdaload C X0 e0 Arv_0 f1_29 ⟨by decide, by decide⟩ (i := 1) rfl (v := t1) rfl ?_
        refine wdadd C X0 f1_30 (v := (FP.dadd (own_st f0 (0 : Int32) al FP.dconst0 t0) t1)) rfl (own_ok_nn (own_ok_add (own_st_ok own_ok_0 ok0 (by decide)) ok1 (by decide))) ?_
        refine wdstoreN C X0 f1_31 #[.val (.ref ta), .val (.ref tb), .val (.int al), .val (.double (FP.dadd (own_st f0 (0 : Int32) al FP.dconst0 t0) t1)), .second, .val (.int (1 : Int32))] rfl ?_
        exact J2 (FP.dadd (own_st f0 (0 : Int32) al FP.dconst0 t0) t1) (((if_pos hc16).trans (if_pos hc22.symm)).symm)
      · exact J2 (own_st f0 (0 : Int32) al FP.dconst0 t0) (((if_pos hc16).trans (if_neg (fun q => hc22 q.symm))).symm)
    · refine wdloadN C X0 f1_25 rfl ?_
      refine waloadN C X0 f1_26 rfl rfl ?_
      refine wiload C X0 f1_27 rfl ?_
      refine wdaload C X0 e0 Arv_0 f1_29 ⟨by decide, by decide⟩ (i := 1) rfl (v := t1) rfl ?_
      refine wdadd C X0 f1_30 (v := (FP.dadd (own_st f0 (0 : Int32) al FP.dconst0 t0) t1)) rfl (own_ok_nn (own_ok_add (own_st_ok own_ok_0 ok0 (by decide)) ok1 (by decide))) ?_
      refine wdstoreN C X0 f1_31 #[.val (.ref ta), .val (.ref tb), .val (.int al), .val (.double (FP.dadd (own_st f0 (0 : Int32) al FP.dconst0 t0) t1)), .second, .val (.int (1 : Int32))] rfl ?_
      exact J2 (FP.dadd (own_st f0 (0 : Int32) al FP.dconst0 t0) t1) ((if_neg hc16).symm)
  refine waloadN C X0 f1_12 rfl rfl ?_
  refine wiload C X0 f1_13 rfl ?_
  refine wbaloadZ C X0 e0 Arv_1 f1_15 ⟨by decide, by decide⟩ (i := 0) rfl (v := f0) rfl ?_
  refine wif_ne C X0 f1_16 (fun hc16 => ?_) (fun hc16 => ?_)
  · refine wiload C X0 f1_19 rfl ?_
    refine wiloadN C X0 f1_21 rfl ?_
    refine wicmp_ne C X0 f1_22 (fun hc22 => ?_) (fun hc22 => ?_)
    · refine wdloadN C X0 f1_25 rfl ?_
      refine waloadN C X0 f1_26 rfl rfl ?_
      refine wiload C X0 f1_27 rfl ?_
      refine wdaload C X0 e0 Arv_0 f1_29 ⟨by decide, by decide⟩ (i := 0) rfl (v := t0) rfl ?_
      refine wdadd C X0 f1_30 (v := (FP.dadd FP.dconst0 t0)) rfl (own_ok_nn (own_ok_add own_ok_0 ok0 (by decide))) ?_
      refine wdstoreN C X0 f1_31 #[.val (.ref ta), .val (.ref tb), .val (.int al), .val (.double (FP.dadd FP.dconst0 t0)), .second, .val (.int (0 : Int32))] rfl ?_
      exact J1 (FP.dadd FP.dconst0 t0) (((if_pos hc16).trans (if_pos hc22.symm)).symm)
    · exact J1 FP.dconst0 (((if_pos hc16).trans (if_neg (fun q => hc22 q.symm))).symm)
  · refine wdloadN C X0 f1_25 rfl ?_
    refine waloadN C X0 f1_26 rfl rfl ?_
    refine wiload C X0 f1_27 rfl ?_
    refine wdaload C X0 e0 Arv_0 f1_29 ⟨by decide, by decide⟩ (i := 0) rfl (v := t0) rfl ?_
    refine wdadd C X0 f1_30 (v := (FP.dadd FP.dconst0 t0)) rfl (own_ok_nn (own_ok_add own_ok_0 ok0 (by decide))) ?_
    refine wdstoreN C X0 f1_31 #[.val (.ref ta), .val (.ref tb), .val (.int al), .val (.double (FP.dadd FP.dconst0 t0)), .second, .val (.int (0 : Int32))] rfl ?_
    exact J1 (FP.dadd FP.dconst0 t0) ((if_neg hc16).symm)
theorem f0_0 : Dec code 0 (.iload_n 0) 1 1 := ⟨by decide +kernel, rfl⟩
theorem f0_1 : Dec code 1 (.i2d) 1 2 := ⟨by decide +kernel, rfl⟩
theorem f0_2 : Dec code 2 (.dstore 5) 2 4 := ⟨by decide +kernel, rfl⟩
theorem f0_4 : Dec code 4 (.iload_n 1) 1 5 := ⟨by decide +kernel, rfl⟩
theorem f0_5 : Dec code 5 (.i2d) 1 6 := ⟨by decide +kernel, rfl⟩
theorem f0_6 : Dec code 6 (.dstore 7) 2 8 := ⟨by decide +kernel, rfl⟩
theorem f0_8 : Dec code 8 (.iload_n 2) 1 9 := ⟨by decide +kernel, rfl⟩
theorem f0_9 : Dec code 9 (.i2d) 1 10 := ⟨by decide +kernel, rfl⟩
theorem f0_10 : Dec code 10 (.dstore 9) 2 12 := ⟨by decide +kernel, rfl⟩
theorem f0_12 : Dec code 12 (.iload_n 3) 1 13 := ⟨by decide +kernel, rfl⟩
theorem f0_13 : Dec code 13 (.iconst 1) 1 14 := ⟨by decide +kernel, rfl⟩
theorem f0_14 : Dec code 14 (.iand) 1 15 := ⟨by decide +kernel, rfl⟩
theorem f0_15 : DecJ code 15 (.ifCond .eq 7) 7 22 18 := ⟨by decide +kernel, by decide, by decide, rfl⟩
theorem f0_18 : Dec code 18 (.iconst 1) 1 19 := ⟨by decide +kernel, rfl⟩
theorem f0_19 : DecJ code 19 (.goto 4) 4 23 22 := ⟨by decide +kernel, by decide, by decide, rfl⟩
theorem f0_22 : Dec code 22 (.iconst 0) 1 23 := ⟨by decide +kernel, rfl⟩
theorem f0_23 : Dec code 23 (.istore 11) 2 25 := ⟨by decide +kernel, rfl⟩
theorem f0_25 : Dec code 25 (.iload_n 3) 1 26 := ⟨by decide +kernel, rfl⟩
theorem f0_26 : Dec code 26 (.iconst 2) 1 27 := ⟨by decide +kernel, rfl⟩
theorem f0_27 : Dec code 27 (.iand) 1 28 := ⟨by decide +kernel, rfl⟩
theorem f0_28 : DecJ code 28 (.ifCond .eq 7) 7 35 31 := ⟨by decide +kernel, by decide, by decide, rfl⟩
theorem f0_31 : Dec code 31 (.iconst 1) 1 32 := ⟨by decide +kernel, rfl⟩
theorem f0_32 : DecJ code 32 (.goto 4) 4 36 35 := ⟨by decide +kernel, by decide, by decide, rfl⟩
theorem f0_35 : Dec code 35 (.iconst 0) 1 36 := ⟨by decide +kernel, rfl⟩
theorem f0_36 : Dec code 36 (.istore 12) 2 38 := ⟨by decide +kernel, rfl⟩
theorem f0_38 : Dec code 38 (.iload_n 3) 1 39 := ⟨by decide +kernel, rfl⟩
theorem f0_39 : Dec code 39 (.iconst 4) 1 40 := ⟨by decide +kernel, rfl⟩
theorem f0_40 : Dec code 40 (.iand) 1 41 := ⟨by decide +kernel, rfl⟩
theorem f0_41 : DecJ code 41 (.ifCond .eq 7) 7 48 44 := ⟨by decide +kernel, by decide, by decide, rfl⟩
theorem f0_44 : Dec code 44 (.iconst 1) 1 45 := ⟨by decide +kernel, rfl⟩
theorem f0_45 : DecJ code 45 (.goto 4) 4 49 48 := ⟨by decide +kernel, by decide, by decide, rfl⟩
theorem f0_48 : Dec code 48 (.iconst 0) 1 49 := ⟨by decide +kernel, rfl⟩
theorem f0_49 : Dec code 49 (.istore 13) 2 51 := ⟨by decide +kernel, rfl⟩
theorem f0_51 : Dec code 51 (.iload_n 3) 1 52 := ⟨by decide +kernel, rfl⟩
theorem f0_52 : Dec code 52 (.bipush 8) 2 54 := ⟨by decide +kernel, rfl⟩
theorem f0_54 : Dec code 54 (.iand) 1 55 := ⟨by decide +kernel, rfl⟩
theorem f0_55 : DecJ code 55 (.ifCond .eq 8) 8 63 58 := ⟨by decide +kernel, by decide, by decide, rfl⟩
theorem f0_58 : Dec code 58 (.iload 4) 2 60 := ⟨by decide +kernel, rfl⟩
theorem f0_60 : DecJ code 60 (.goto 9) 9 69 63 := ⟨by decide +kernel, by decide, by decide, rfl⟩
theorem f0_63 : Dec code 63 (.iload 4) 2 65 := ⟨by decide +kernel, rfl⟩
theorem f0_65 : Dec code 65 (.iconst 3) 1 66 := ⟨by decide +kernel, rfl⟩
theorem f0_66 : Dec code 66 (.iand) 1 67 := ⟨by decide +kernel, rfl⟩
theorem f0_67 : Dec code 67 (.iconst 1) 1 68 := ⟨by decide +kernel, rfl⟩
theorem f0_68 : Dec code 68 (.isub) 1 69 := ⟨by decide +kernel, rfl⟩
theorem f0_69 : Dec code 69 (.istore 14) 2 71 := ⟨by decide +kernel, rfl⟩
theorem f0_71 : Dec code 71 (.iconst 3) 1 72 := ⟨by decide +kernel, rfl⟩
theorem f0_72 : Dec code 72 (.newarray .double) 2 74 := ⟨by decide +kernel, rfl⟩
theorem f0_74 : Dec code 74 (.dup) 1 75 := ⟨by decide +kernel, rfl⟩
theorem f0_75 : Dec code 75 (.iconst 0) 1 76 := ⟨by decide +kernel, rfl⟩
theorem f0_76 : Dec code 76 (.dload 5) 2 78 := ⟨by decide +kernel, rfl⟩
theorem f0_78 : Dec code 78 (.dastore) 1 79 := ⟨by decide +kernel, rfl⟩
theorem f0_79 : Dec code 79 (.dup) 1 80 := ⟨by decide +kernel, rfl⟩
theorem f0_80 : Dec code 80 (.iconst 1) 1 81 := ⟨by decide +kernel, rfl⟩
theorem f0_81 : Dec code 81 (.dload 7) 2 83 := ⟨by decide +kernel, rfl⟩
theorem f0_83 : Dec code 83 (.dastore) 1 84 := ⟨by decide +kernel, rfl⟩
theorem f0_84 : Dec code 84 (.dup) 1 85 := ⟨by decide +kernel, rfl⟩
theorem f0_85 : Dec code 85 (.iconst 2) 1 86 := ⟨by decide +kernel, rfl⟩
theorem f0_86 : Dec code 86 (.dload 9) 2 88 := ⟨by decide +kernel, rfl⟩
theorem f0_88 : Dec code 88 (.dastore) 1 89 := ⟨by decide +kernel, rfl⟩
theorem f0_89 : Dec code 89 (.astore 15) 2 91 := ⟨by decide +kernel, rfl⟩
theorem f0_91 : Dec code 91 (.iconst 3) 1 92 := ⟨by decide +kernel, rfl⟩
theorem f0_92 : Dec code 92 (.newarray .boolean) 2 94 := ⟨by decide +kernel, rfl⟩
theorem f0_94 : Dec code 94 (.dup) 1 95 := ⟨by decide +kernel, rfl⟩
theorem f0_95 : Dec code 95 (.iconst 0) 1 96 := ⟨by decide +kernel, rfl⟩
theorem f0_96 : Dec code 96 (.iload 11) 2 98 := ⟨by decide +kernel, rfl⟩
theorem f0_98 : Dec code 98 (.bastore) 1 99 := ⟨by decide +kernel, rfl⟩
theorem f0_99 : Dec code 99 (.dup) 1 100 := ⟨by decide +kernel, rfl⟩
theorem f0_100 : Dec code 100 (.iconst 1) 1 101 := ⟨by decide +kernel, rfl⟩
theorem f0_101 : Dec code 101 (.iload 12) 2 103 := ⟨by decide +kernel, rfl⟩
theorem f0_103 : Dec code 103 (.bastore) 1 104 := ⟨by decide +kernel, rfl⟩
theorem f0_104 : Dec code 104 (.dup) 1 105 := ⟨by decide +kernel, rfl⟩
theorem f0_105 : Dec code 105 (.iconst 2) 1 106 := ⟨by decide +kernel, rfl⟩
theorem f0_106 : Dec code 106 (.iload 13) 2 108 := ⟨by decide +kernel, rfl⟩
theorem f0_108 : Dec code 108 (.bastore) 1 109 := ⟨by decide +kernel, rfl⟩
theorem f0_109 : Dec code 109 (.astore 16) 2 111 := ⟨by decide +kernel, rfl⟩
theorem f0_111 : Dec code 111 (.dconst 0) 1 112 := ⟨by decide +kernel, rfl⟩
theorem f0_112 : Dec code 112 (.dstore 17) 2 114 := ⟨by decide +kernel, rfl⟩
theorem f0_114 : Dec code 114 (.iload 11) 2 116 := ⟨by decide +kernel, rfl⟩
theorem f0_116 : DecJ code 116 (.ifCond .ne 8) 8 124 119 := ⟨by decide +kernel, by decide, by decide, rfl⟩
theorem f0_119 : Dec code 119 (.iload 14) 2 121 := ⟨by decide +kernel, rfl⟩
theorem f0_121 : DecJ code 121 (.ifCond .ne 10) 10 131 124 := ⟨by decide +kernel, by decide, by decide, rfl⟩
theorem f0_124 : Dec code 124 (.dload 17) 2 126 := ⟨by decide +kernel, rfl⟩
theorem f0_126 : Dec code 126 (.dload 5) 2 128 := ⟨by decide +kernel, rfl⟩
theorem f0_128 : Dec code 128 (.dadd) 1 129 := ⟨by decide +kernel, rfl⟩
theorem f0_129 : Dec code 129 (.dstore 17) 2 131 := ⟨by decide +kernel, rfl⟩
theorem f0_131 : Dec code 131 (.iload 12) 2 133 := ⟨by decide +kernel, rfl⟩
theorem f0_133 : DecJ code 133 (.ifCond .ne 9) 9 142 136 := ⟨by decide +kernel, by decide, by decide, rfl⟩
theorem f0_136 : Dec code 136 (.iload 14) 2 138 := ⟨by decide +kernel, rfl⟩
theorem f0_138 : Dec code 138 (.iconst 1) 1 139 := ⟨by decide +kernel, rfl⟩
theorem f0_139 : DecJ code 139 (.if_icmp .ne 10) 10 149 142 := ⟨by decide +kernel, by decide, by decide, rfl⟩
theorem f0_142 : Dec code 142 (.dload 17) 2 144 := ⟨by decide +kernel, rfl⟩
theorem f0_144 : Dec code 144 (.dload 7) 2 146 := ⟨by decide +kernel, rfl⟩
theorem f0_146 : Dec code 146 (.dadd) 1 147 := ⟨by decide +kernel, rfl⟩
theorem f0_147 : Dec code 147 (.dstore 17) 2 149 := ⟨by decide +kernel, rfl⟩
theorem f0_149 : Dec code 149 (.iload 13) 2 151 := ⟨by decide +kernel, rfl⟩
theorem f0_151 : DecJ code 151 (.ifCond .ne 9) 9 160 154 := ⟨by decide +kernel, by decide, by decide, rfl⟩
theorem f0_154 : Dec code 154 (.iload 14) 2 156 := ⟨by decide +kernel, rfl⟩
theorem f0_156 : Dec code 156 (.iconst 2) 1 157 := ⟨by decide +kernel, rfl⟩
theorem f0_157 : DecJ code 157 (.if_icmp .ne 10) 10 167 160 := ⟨by decide +kernel, by decide, by decide, rfl⟩
theorem f0_160 : Dec code 160 (.dload 17) 2 162 := ⟨by decide +kernel, rfl⟩
theorem f0_162 : Dec code 162 (.dload 9) 2 164 := ⟨by decide +kernel, rfl⟩
theorem f0_164 : Dec code 164 (.dadd) 1 165 := ⟨by decide +kernel, rfl⟩
theorem f0_165 : Dec code 165 (.dstore 17) 2 167 := ⟨by decide +kernel, rfl⟩
theorem f0_167 : Dec code 167 (.aload 15) 2 169 := ⟨by decide +kernel, rfl⟩
theorem f0_169 : Dec code 169 (.aload 16) 2 171 := ⟨by decide +kernel, rfl⟩
theorem f0_171 : Dec code 171 (.iload 14) 2 173 := ⟨by decide +kernel, rfl⟩
theorem f0_173 : Dec code 173 (.invokestatic 7) 3 176 := ⟨by decide +kernel, rfl⟩
theorem f0_176 : Dec code 176 (.dstore 19) 2 178 := ⟨by decide +kernel, rfl⟩
theorem f0_178 : Dec code 178 (.aload 15) 2 180 := ⟨by decide +kernel, rfl⟩
theorem f0_180 : Dec code 180 (.iconst 0) 1 181 := ⟨by decide +kernel, rfl⟩
theorem f0_181 : Dec code 181 (.daload) 1 182 := ⟨by decide +kernel, rfl⟩
theorem f0_182 : Dec code 182 (.dload 5) 2 184 := ⟨by decide +kernel, rfl⟩
theorem f0_184 : Dec code 184 (.dcmp .l) 1 185 := ⟨by decide +kernel, rfl⟩
theorem f0_185 : DecJ code 185 (.ifCond .ne 54) 54 239 188 := ⟨by decide +kernel, by decide, by decide, rfl⟩
theorem f0_188 : Dec code 188 (.aload 15) 2 190 := ⟨by decide +kernel, rfl⟩
theorem f0_190 : Dec code 190 (.iconst 1) 1 191 := ⟨by decide +kernel, rfl⟩
theorem f0_191 : Dec code 191 (.daload) 1 192 := ⟨by decide +kernel, rfl⟩
theorem f0_192 : Dec code 192 (.dload 7) 2 194 := ⟨by decide +kernel, rfl⟩
theorem f0_194 : Dec code 194 (.dcmp .l) 1 195 := ⟨by decide +kernel, rfl⟩
theorem f0_195 : DecJ code 195 (.ifCond .ne 44) 44 239 198 := ⟨by decide +kernel, by decide, by decide, rfl⟩
theorem f0_198 : Dec code 198 (.aload 15) 2 200 := ⟨by decide +kernel, rfl⟩
theorem f0_200 : Dec code 200 (.iconst 2) 1 201 := ⟨by decide +kernel, rfl⟩
theorem f0_201 : Dec code 201 (.daload) 1 202 := ⟨by decide +kernel, rfl⟩
theorem f0_202 : Dec code 202 (.dload 9) 2 204 := ⟨by decide +kernel, rfl⟩
theorem f0_204 : Dec code 204 (.dcmp .l) 1 205 := ⟨by decide +kernel, rfl⟩
theorem f0_205 : DecJ code 205 (.ifCond .ne 34) 34 239 208 := ⟨by decide +kernel, by decide, by decide, rfl⟩
theorem f0_208 : Dec code 208 (.aload 16) 2 210 := ⟨by decide +kernel, rfl⟩
theorem f0_210 : Dec code 210 (.iconst 0) 1 211 := ⟨by decide +kernel, rfl⟩
theorem f0_211 : Dec code 211 (.baload) 1 212 := ⟨by decide +kernel, rfl⟩
theorem f0_212 : Dec code 212 (.iload 11) 2 214 := ⟨by decide +kernel, rfl⟩
theorem f0_214 : DecJ code 214 (.if_icmp .ne 25) 25 239 217 := ⟨by decide +kernel, by decide, by decide, rfl⟩
theorem f0_217 : Dec code 217 (.aload 16) 2 219 := ⟨by decide +kernel, rfl⟩
theorem f0_219 : Dec code 219 (.iconst 1) 1 220 := ⟨by decide +kernel, rfl⟩
theorem f0_220 : Dec code 220 (.baload) 1 221 := ⟨by decide +kernel, rfl⟩
theorem f0_221 : Dec code 221 (.iload 12) 2 223 := ⟨by decide +kernel, rfl⟩
theorem f0_223 : DecJ code 223 (.if_icmp .ne 16) 16 239 226 := ⟨by decide +kernel, by decide, by decide, rfl⟩
theorem f0_226 : Dec code 226 (.aload 16) 2 228 := ⟨by decide +kernel, rfl⟩
theorem f0_228 : Dec code 228 (.iconst 2) 1 229 := ⟨by decide +kernel, rfl⟩
theorem f0_229 : Dec code 229 (.baload) 1 230 := ⟨by decide +kernel, rfl⟩
theorem f0_230 : Dec code 230 (.iload 13) 2 232 := ⟨by decide +kernel, rfl⟩
theorem f0_232 : DecJ code 232 (.if_icmp .ne 7) 7 239 235 := ⟨by decide +kernel, by decide, by decide, rfl⟩
theorem f0_235 : Dec code 235 (.iconst 1) 1 236 := ⟨by decide +kernel, rfl⟩
theorem f0_236 : DecJ code 236 (.goto 4) 4 240 239 := ⟨by decide +kernel, by decide, by decide, rfl⟩
theorem f0_240 : Dec code 240 (.istore 21) 2 242 := ⟨by decide +kernel, rfl⟩
theorem f0_242 : Dec code 242 (.dload 19) 2 244 := ⟨by decide +kernel, rfl⟩
theorem f0_244 : Dec code 244 (.dload 17) 2 246 := ⟨by decide +kernel, rfl⟩
theorem f0_246 : Dec code 246 (.dcmp .l) 1 247 := ⟨by decide +kernel, rfl⟩
theorem f0_247 : DecJ code 247 (.ifCond .ne 12) 12 259 250 := ⟨by decide +kernel, by decide, by decide, rfl⟩
theorem f0_250 : Dec code 250 (.iload 21) 2 252 := ⟨by decide +kernel, rfl⟩
theorem f0_252 : DecJ code 252 (.ifCond .eq 7) 7 259 255 := ⟨by decide +kernel, by decide, by decide, rfl⟩
theorem f0_255 : Dec code 255 (.iconst 1) 1 256 := ⟨by decide +kernel, rfl⟩
theorem f0_256 : DecJ code 256 (.goto 4) 4 260 259 := ⟨by decide +kernel, by decide, by decide, rfl⟩
theorem f0_260 : Dec code 260 (.ireturn) 1 261 := ⟨by decide +kernel, rfl⟩
theorem pn_0 : plainFor x = true := plainFor_of_name (show plainName "com/example/hornwork/hornwork/SumsTotalWithPinLaw" = true by first | (simp [plainName, overriddenIn]; done) | decide +kernel)
theorem ef_0 (m : MethodId) (i0 : Int32) (i1 : Int32) (i2 : Int32) (fl : Int32) (ee : Int32) : entryFrame m #[(.int i0), (.int i1), (.int i2), (.int fl), (.int ee)] maxLocals = mkF m 0 #[.val (.int i0), .val (.int i1), .val (.int i2), .val (.int fl), .val (.int ee), .unset, .unset, .unset, .unset, .unset, .unset, .unset, .unset, .unset, .unset, .unset, .unset, .unset, .unset, .unset, .unset, .unset] [] := by first | (simp [entryFrame, mkF, argsToLocals, Value.category, maxLocals]; done) | rfl
def Q0 (n0 : Nat) (v : Option Value) (h : Heap) (L : List Loc) : Prop := v = some (.int 1) ∧ Fr n0 L
set_option maxRecDepth 65536 in
set_option maxHeartbeats 40000000 in
theorem rm0 (l : Launch) (Z : State) (a0 : Array Value) (hw : ∀ d ∈ tables_1, d.before a0 Z = true) (ws : List Jvm.Cond) (i0 : Int32) (i1 : Int32) (i2 : Int32) (fl : Int32) (ee : Int32) (h0 : Heap) (n0 : Nat) (Z0 : n0 ≤ h0.size) :
    MetFree l x (head1 (Jvm.Cond.code x code maxLocals ret :: ws) room_1) (fun A9 U9 => A9 = #[(.int i0), (.int i1), (.int i2), (.int fl), (.int ee)] ∧ Z.Warmed39 U9.vm ∧ U9.heap = h0) (fun _ _ _ _ _ => True) (fun _ U9 o9 V9 => ∃ v9 L9, o9 = .returned v9 ∧ (Q0 n0) v9 V9.heap L9 ∧ FrameEnd U9 o9 V9 L9 room_1.cells room_1.slots) := by
  refine met_of (Q := (Q0 n0)) pn_0 ?_
  intro p e s m below meth c T0 C X0 e0
  have N0 := Fr.nil n0
  refine Go.cast (ef_0 m i0 i1 i2 fl ee) ?_
  refine wiloadN C X0 f0_0 rfl ?_
  refine wi2d C X0 f0_1 ?_
  refine wdstore C X0 f0_2 #[.val (.int i0), .val (.int i1), .val (.int i2), .val (.int fl), .val (.int ee), .val (.double (FP.i2d i0)), .second, .unset, .unset, .unset, .unset, .unset, .unset, .unset, .unset, .unset, .unset, .unset, .unset, .unset, .unset, .unset] rfl ?_
  refine wiloadN C X0 f0_4 rfl ?_
  refine wi2d C X0 f0_5 ?_
  refine wdstore C X0 f0_6 #[.val (.int i0), .val (.int i1), .val (.int i2), .val (.int fl), .val (.int ee), .val (.double (FP.i2d i0)), .second, .val (.double (FP.i2d i1)), .second, .unset, .unset, .unset, .unset, .unset, .unset, .unset, .unset, .unset, .unset, .unset, .unset, .unset] rfl ?_
  refine wiloadN C X0 f0_8 rfl ?_
  refine wi2d C X0 f0_9 ?_
  refine wdstore C X0 f0_10 #[.val (.int i0), .val (.int i1), .val (.int i2), .val (.int fl), .val (.int ee), .val (.double (FP.i2d i0)), .second, .val (.double (FP.i2d i1)), .second, .val (.double (FP.i2d i2)), .second, .unset, .unset, .unset, .unset, .unset, .unset, .unset, .unset, .unset, .unset, .unset] rfl ?_
  refine wiloadN C X0 f0_12 rfl ?_
  refine wiconst C X0 f0_13 (1 : Int32) rfl ?_
  refine wiand C X0 f0_14 ?_
  have J1 : ∀ (f0 : Int32), (f0 = 0 ∨ f0 = 1) → Go p e below s (Q0 n0) room_1.cells room_1.slots T0 (mkF m 23 #[.val (.int i0), .val (.int i1), .val (.int i2), .val (.int fl), .val (.int ee), .val (.double (FP.i2d i0)), .second, .val (.double (FP.i2d i1)), .second, .val (.double (FP.i2d i2)), .second, .unset, .unset, .unset, .unset, .unset, .unset, .unset, .unset, .unset, .unset, .unset] [(.int f0)]) := by
    intro f0 hf0
    refine wistore C X0 f0_23 #[.val (.int i0), .val (.int i1), .val (.int i2), .val (.int fl), .val (.int ee), .val (.double (FP.i2d i0)), .second, .val (.double (FP.i2d i1)), .second, .val (.double (FP.i2d i2)), .second, .val (.int f0), .unset, .unset, .unset, .unset, .unset, .unset, .unset, .unset, .unset, .unset] rfl ?_
    refine wiloadN C X0 f0_25 rfl ?_
    refine wiconst C X0 f0_26 (2 : Int32) rfl ?_
    refine wiand C X0 f0_27 ?_
    have J2 : ∀ (f1 : Int32), (f1 = 0 ∨ f1 = 1) → Go p e below s (Q0 n0) room_1.cells room_1.slots T0 (mkF m 36 #[.val (.int i0), .val (.int i1), .val (.int i2), .val (.int fl), .val (.int ee), .val (.double (FP.i2d i0)), .second, .val (.double (FP.i2d i1)), .second, .val (.double (FP.i2d i2)), .second, .val (.int f0), .unset, .unset, .unset, .unset, .unset, .unset, .unset, .unset, .unset, .unset] [(.int f1)]) := by
      intro f1 hf1
      refine wistore C X0 f0_36 #[.val (.int i0), .val (.int i1), .val (.int i2), .val (.int fl), .val (.int ee), .val (.double (FP.i2d i0)), .second, .val (.double (FP.i2d i1)), .second, .val (.double (FP.i2d i2)), .second, .val (.int f0), .val (.int f1), .unset, .unset, .unset, .unset, .unset, .unset, .unset, .unset, .unset] rfl ?_
      refine wiloadN C X0 f0_38 rfl ?_
      refine wiconst C X0 f0_39 (4 : Int32) rfl ?_
      refine wiand C X0 f0_40 ?_
      have J3 : ∀ (f2 : Int32), (f2 = 0 ∨ f2 = 1) → Go p e below s (Q0 n0) room_1.cells room_1.slots T0 (mkF m 49 #[.val (.int i0), .val (.int i1), .val (.int i2), .val (.int fl), .val (.int ee), .val (.double (FP.i2d i0)), .second, .val (.double (FP.i2d i1)), .second, .val (.double (FP.i2d i2)), .second, .val (.int f0), .val (.int f1), .unset, .unset, .unset, .unset, .unset, .unset, .unset, .unset, .unset] [(.int f2)]) := by
        intro f2 hf2
        refine wistore C X0 f0_49 #[.val (.int i0), .val (.int i1), .val (.int i2), .val (.int fl), .val (.int ee), .val (.double (FP.i2d i0)), .second, .val (.double (FP.i2d i1)), .second, .val (.double (FP.i2d i2)), .second, .val (.int f0), .val (.int f1), .val (.int f2), .unset, .unset, .unset, .unset, .unset, .unset, .unset, .unset] rfl ?_
        refine wiloadN C X0 f0_51 rfl ?_
        refine wbipush C X0 f0_52 (8 : Int32) bp_b_8 ?_
        refine wiand C X0 f0_54 ?_
        have J4 : ∀ (al : Int32), Go p e below s (Q0 n0) room_1.cells room_1.slots T0 (mkF m 69 #[.val (.int i0), .val (.int i1), .val (.int i2), .val (.int fl), .val (.int ee), .val (.double (FP.i2d i0)), .second, .val (.double (FP.i2d i1)), .second, .val (.double (FP.i2d i2)), .second, .val (.int f0), .val (.int f1), .val (.int f2), .unset, .unset, .unset, .unset, .unset, .unset, .unset, .unset] [(.int al)]) := by
          intro al
          refine wistore C X0 f0_69 #[.val (.int i0), .val (.int i1), .val (.int i2), .val (.int fl), .val (.int ee), .val (.double (FP.i2d i0)), .second, .val (.double (FP.i2d i1)), .second, .val (.double (FP.i2d i2)), .second, .val (.int f0), .val (.int f1), .val (.int f2), .val (.int al), .unset, .unset, .unset, .unset, .unset, .unset, .unset] rfl ?_
          refine wiconst C X0 f0_71 (3 : Int32) rfl ?_
          refine wnewarr C X0 (aty := .double) (tw_0 hw) e0 f0_72 (by decide) (cap := 3) (by decide) (by decide) (by decide) (by decide) ?_
          intro T5 h5 b5 k5 g5 X5 e5 E5 V5
          have sz5 : h0.size ≤ b5 := Nat.le_trans (Nat.le_refl h0.size) (Nat.le_of_eq g5.symm)
          have Vp5 : Arv Z h5 b5 k5 .double (3 : Int32) [(.double (0 : UInt64)), (.double (0 : UInt64)), (.double (0 : UInt64))] (.double (0 : UInt64)) := Arv.pad V5 (pad_rep [] (.double (0 : UInt64)) 3)
          refine wdup C X5 f0_74 rfl ?_
          refine wiconst C X5 f0_75 (0 : Int32) rfl ?_
          refine wdload C X5 f0_76 rfl ?_
          refine wdastore C X5 e5 Vp5 f0_78 ⟨by decide, by decide⟩ 0 rfl (show (0 : Nat) < 3 by decide) [(.double (FP.i2d i0)), (.double (0 : UInt64)), (.double (0 : UInt64))] rfl ?_
          intro T6 h6 sl6 w6 X6 e6 W6 V6
          have N6 := Fr.snoc X6 N0 (Nat.le_trans Z0 sz5)
          refine wdup C X6 f0_79 rfl ?_
          refine wiconst C X6 f0_80 (1 : Int32) rfl ?_
          refine wdload C X6 f0_81 rfl ?_
          refine wdastore C X6 e6 V6 f0_83 ⟨by decide, by decide⟩ 1 rfl (show (1 : Nat) < 3 by decide) [(.double (FP.i2d i0)), (.double (FP.i2d i1)), (.double (0 : UInt64))] rfl ?_
          intro T7 h7 sl7 w7 X7 e7 W7 V7
          have N7 := Fr.snoc X7 N6 (Nat.le_trans Z0 sz5)
          refine wdup C X7 f0_84 rfl ?_
          refine wiconst C X7 f0_85 (2 : Int32) rfl ?_
          refine wdload C X7 f0_86 rfl ?_
          refine wdastore C X7 e7 V7 f0_88 ⟨by decide, by decide⟩ 2 rfl (show (2 : Nat) < 3 by decide) [(.double (FP.i2d i0)), (.double (FP.i2d i1)), (.double (FP.i2d i2))] rfl ?_
          intro T8 h8 sl8 w8 X8 e8 W8 V8
          have N8 := Fr.snoc X8 N7 (Nat.le_trans Z0 sz5)
          refine wastore C X8 f0_89 #[.val (.int i0), .val (.int i1), .val (.int i2), .val (.int fl), .val (.int ee), .val (.double (FP.i2d i0)), .second, .val (.double (FP.i2d i1)), .second, .val (.double (FP.i2d i2)), .second, .val (.int f0), .val (.int f1), .val (.int f2), .val (.int al), .val (.ref b5), .unset, .unset, .unset, .unset, .unset, .unset] rfl rfl ?_
          refine wiconst C X8 f0_91 (3 : Int32) rfl ?_
          have q10 := (Nat.le_trans (Nat.le_trans (Nat.le_trans (Nat.le_trans (Nat.le_refl h0.size) E5.1) (Nat.le_of_eq W6.size.symm)) (Nat.le_of_eq W7.size.symm)) (Nat.le_of_eq W8.size.symm))
          refine wnewarr C X8 (aty := .boolean) (tw_1 hw) e8 f0_92 (by decide) (cap := 3) (by decide) (by decide) (by decide) (by decide) ?_
          intro T9 h9 b9 k9 g9 X9 e9 E9 V9
          have sz9 : h0.size ≤ b9 := Nat.le_trans q10 (Nat.le_of_eq g9.symm)
          have Vp9 : Arv Z h9 b9 k9 .boolean (3 : Int32) [(.int (0 : Int32)), (.int (0 : Int32)), (.int (0 : Int32))] (.int (0 : Int32)) := Arv.pad V9 (pad_rep [] (.int (0 : Int32)) 3)
          refine wdup C X9 f0_94 rfl ?_
          refine wiconst C X9 f0_95 (0 : Int32) rfl ?_
          refine wiload C X9 f0_96 rfl ?_
          refine wbastoreZ C X9 e9 Vp9 f0_98 ⟨by decide, by decide⟩ 0 rfl (show (0 : Nat) < 3 by decide) [(.int f0), (.int (0 : Int32)), (.int (0 : Int32))] (by rw [own_nar hf0]; rfl) ?_
          intro T11 h11 sl11 w11 X11 e11 W11 V11
          have N11 := Fr.snoc X11 N8 (Nat.le_trans Z0 sz9)
          refine wdup C X11 f0_99 rfl ?_
          refine wiconst C X11 f0_100 (1 : Int32) rfl ?_
          refine wiload C X11 f0_101 rfl ?_
          refine wbastoreZ C X11 e11 V11 f0_103 ⟨by decide, by decide⟩ 1 rfl (show (1 : Nat) < 3 by decide) [(.int f0), (.int f1), (.int (0 : Int32))] (by rw [own_nar hf1]; rfl) ?_
          intro T12 h12 sl12 w12 X12 e12 W12 V12
          have N12 := Fr.snoc X12 N11 (Nat.le_trans Z0 sz9)
          refine wdup C X12 f0_104 rfl ?_
          refine wiconst C X12 f0_105 (2 : Int32) rfl ?_
          refine wiload C X12 f0_106 rfl ?_
          refine wbastoreZ C X12 e12 V12 f0_108 ⟨by decide, by decide⟩ 2 rfl (show (2 : Nat) < 3 by decide) [(.int f0), (.int f1), (.int f2)] (by rw [own_nar hf2]; rfl) ?_
          intro T13 h13 sl13 w13 X13 e13 W13 V13
          have N13 := Fr.snoc X13 N12 (Nat.le_trans Z0 sz9)
          refine wastore C X13 f0_109 #[.val (.int i0), .val (.int i1), .val (.int i2), .val (.int fl), .val (.int ee), .val (.double (FP.i2d i0)), .second, .val (.double (FP.i2d i1)), .second, .val (.double (FP.i2d i2)), .second, .val (.int f0), .val (.int f1), .val (.int f2), .val (.int al), .val (.ref b5), .val (.ref b9), .unset, .unset, .unset, .unset, .unset] rfl rfl ?_
          refine wdconst0 C X13 f0_111 ?_
          refine wdstore C X13 f0_112 #[.val (.int i0), .val (.int i1), .val (.int i2), .val (.int fl), .val (.int ee), .val (.double (FP.i2d i0)), .second, .val (.double (FP.i2d i1)), .second, .val (.double (FP.i2d i2)), .second, .val (.int f0), .val (.int f1), .val (.int f2), .val (.int al), .val (.ref b5), .val (.ref b9), .val (.double FP.dconst0), .second, .unset, .unset, .unset] rfl ?_
          have J14 : ∀ (s0 : UInt64), (s0 = (own_st f0 (0 : Int32) al FP.dconst0 (FP.i2d i0))) → Go p e below s (Q0 n0) room_1.cells room_1.slots T13 (mkF m 131 #[.val (.int i0), .val (.int i1), .val (.int i2), .val (.int fl), .val (.int ee), .val (.double (FP.i2d i0)), .second, .val (.double (FP.i2d i1)), .second, .val (.double (FP.i2d i2)), .second, .val (.int f0), .val (.int f1), .val (.int f2), .val (.int al), .val (.ref b5), .val (.ref b9), .val (.double s0), .second, .unset, .unset, .unset] []) := by
            intro s0 es0
            subst es0
            have J15 : ∀ (s1 : UInt64), (s1 = (own_st f1 (1 : Int32) al (own_st f0 (0 : Int32) al FP.dconst0 (FP.i2d i0)) (FP.i2d i1))) → Go p e below s (Q0 n0) room_1.cells room_1.slots T13 (mkF m 149 #[.val (.int i0), .val (.int i1), .val (.int i2), .val (.int fl), .val (.int ee), .val (.double (FP.i2d i0)), .second, .val (.double (FP.i2d i1)), .second, .val (.double (FP.i2d i2)), .second, .val (.int f0), .val (.int f1), .val (.int f2), .val (.int al), .val (.ref b5), .val (.ref b9), .val (.double s1), .second, .unset, .unset, .unset] []) := by
              intro s1 es1
              subst es1
              have J16 : ∀ (s2 : UInt64), (s2 = (own_st f2 (2 : Int32) al (own_st f1 (1 : Int32) al (own_st f0 (0 : Int32) al FP.dconst0 (FP.i2d i0)) (FP.i2d i1)) (FP.i2d i2))) → Go p e below s (Q0 n0) room_1.cells room_1.slots T13 (mkF m 167 #[.val (.int i0), .val (.int i1), .val (.int i2), .val (.int fl), .val (.int ee), .val (.double (FP.i2d i0)), .second, .val (.double (FP.i2d i1)), .second, .val (.double (FP.i2d i2)), .second, .val (.int f0), .val (.int f1), .val (.int f2), .val (.int al), .val (.ref b5), .val (.ref b9), .val (.double s2), .second, .unset, .unset, .unset] []) := by
                intro s2 es2
                subst es2
                refine waload C X13 f0_167 rfl rfl ?_
                refine waload C X13 f0_169 rfl rfl ?_
                refine wiload C X13 f0_171 rfl ?_
                have ne18 : b5 ≠ b9 := (Nat.ne_of_lt (Nat.lt_of_lt_of_le (Nat.lt_of_lt_of_eq (Nat.lt_of_lt_of_eq (Nat.lt_of_lt_of_eq Vp5.lt W6.size.symm) W7.size.symm) W8.size.symm) (Nat.le_of_eq g9.symm)))
                have q19 := ((((V8.ext E9).other W11 ne18).other W12 ne18).other W13 ne18)
                have q20 := (Nat.le_trans (Nat.le_trans (Nat.le_trans (Nat.le_trans (Nat.le_trans (Nat.le_trans (Nat.le_trans (Nat.le_trans Z0 E5.1) (Nat.le_of_eq W6.size.symm)) (Nat.le_of_eq W7.size.symm)) (Nat.le_of_eq W8.size.symm)) E9.1) (Nat.le_of_eq W11.size.symm)) (Nat.le_of_eq W12.size.symm)) (Nat.le_of_eq W13.size.symm))
                refine wstatic C X13 (y := (⟨"com/example/hornwork/hornwork/Sums", "totalWith", "([D[ZI)D"⟩ : MethodName)) (tw_2 hw) (tw_3 hw) (tw_4 hw) (tw_5 hw) (by decide) (rm1 l Z a0 hw [] b5 b9 al k5 k9 (FP.i2d i0) (FP.i2d i1) (FP.i2d i2) f0 f1 f2 h13 n0 q20 q19 V13 (own_ok_i i0) (own_ok_i i1) (own_ok_i i2)) e13 f0_173 (argsL := [(.ref b5), (.ref b9), (.int al)]) (rest := []) rfl rfl (lenOf pd_0 rfl) rfl (W := 0) (Nat.le_of_eq rfl) (by decide) (by decide) (by decide) (by decide) ?_
                intro v17 T17 L17 X17 q17
                obtain ⟨rfl, Nq17, eq17⟩ := q17
                have N17 := Fr.app N13 Nq17
                show Go p e below s _ _ _ T17 (mkF m 176 #[.val (.int i0), .val (.int i1), .val (.int i2), .val (.int fl), .val (.int ee), .val (.double (FP.i2d i0)), .second, .val (.double (FP.i2d i1)), .second, .val (.double (FP.i2d i2)), .second, .val (.int f0), .val (.int f1), .val (.int f2), .val (.int al), .val (.ref b5), .val (.ref b9), .val (.double (own_st f2 (2 : Int32) al (own_st f1 (1 : Int32) al (own_st f0 (0 : Int32) al FP.dconst0 (FP.i2d i0)) (FP.i2d i1)) (FP.i2d i2))), .second, .unset, .unset, .unset] [(.double (own_tot f0 f1 f2 al (FP.i2d i0) (FP.i2d i1) (FP.i2d i2)))])
                refine wdstore C X17 f0_176 #[.val (.int i0), .val (.int i1), .val (.int i2), .val (.int fl), .val (.int ee), .val (.double (FP.i2d i0)), .second, .val (.double (FP.i2d i1)), .second, .val (.double (FP.i2d i2)), .second, .val (.int f0), .val (.int f1), .val (.int f2), .val (.int al), .val (.ref b5), .val (.ref b9), .val (.double (own_st f2 (2 : Int32) al (own_st f1 (1 : Int32) al (own_st f0 (0 : Int32) al FP.dconst0 (FP.i2d i0)) (FP.i2d i1)) (FP.i2d i2))), .second, .val (.double (own_tot f0 f1 f2 al (FP.i2d i0) (FP.i2d i1) (FP.i2d i2))), .second, .unset] rfl ?_
                refine waload C X17 f0_178 rfl rfl ?_
                refine wiconst C X17 f0_180 (0 : Int32) rfl ?_
                refine wdaload C X17 eq17 q19 f0_181 ⟨by decide, by decide⟩ (i := 0) rfl (v := (FP.i2d i0)) rfl ?_
                refine wdload C X17 f0_182 rfl ?_
                refine wdcmp C X17 f0_184 (v := (cmpValue (FP.dcmp (FP.i2d i0) (FP.i2d i0)) .l)) rfl ?_
                refine wif_ne C X17 f0_185 ?_ (fun q => absurd (dcmpV_self (own_ok_nn (own_ok_i i0)) _) q)
                intro _
                refine waload C X17 f0_188 rfl rfl ?_
                refine wiconst C X17 f0_190 (1 : Int32) rfl ?_
                refine wdaload C X17 eq17 q19 f0_191 ⟨by decide, by decide⟩ (i := 1) rfl (v := (FP.i2d i1)) rfl ?_
                refine wdload C X17 f0_192 rfl ?_
                refine wdcmp C X17 f0_194 (v := (cmpValue (FP.dcmp (FP.i2d i1) (FP.i2d i1)) .l)) rfl ?_
                refine wif_ne C X17 f0_195 ?_ (fun q => absurd (dcmpV_self (own_ok_nn (own_ok_i i1)) _) q)
                intro _
                refine waload C X17 f0_198 rfl rfl ?_
                refine wiconst C X17 f0_200 (2 : Int32) rfl ?_
                refine wdaload C X17 eq17 q19 f0_201 ⟨by decide, by decide⟩ (i := 2) rfl (v := (FP.i2d i2)) rfl ?_
                refine wdload C X17 f0_202 rfl ?_
                refine wdcmp C X17 f0_204 (v := (cmpValue (FP.dcmp (FP.i2d i2) (FP.i2d i2)) .l)) rfl ?_
                refine wif_ne C X17 f0_205 ?_ (fun q => absurd (dcmpV_self (own_ok_nn (own_ok_i i2)) _) q)
                intro _
                refine waload C X17 f0_208 rfl rfl ?_
                refine wiconst C X17 f0_210 (0 : Int32) rfl ?_
                refine wbaloadZ C X17 eq17 V13 f0_211 ⟨by decide, by decide⟩ (i := 0) rfl (v := f0) rfl ?_
                refine wiload C X17 f0_212 rfl ?_
                refine wicmp_ne C X17 f0_214 ?_ (fun q => absurd (rfl : f0 = f0) q)
                intro _
                refine waload C X17 f0_217 rfl rfl ?_
                refine wiconst C X17 f0_219 (1 : Int32) rfl ?_
                refine wbaloadZ C X17 eq17 V13 f0_220 ⟨by decide, by decide⟩ (i := 1) rfl (v := f1) rfl ?_
                refine wiload C X17 f0_221 rfl ?_
                refine wicmp_ne C X17 f0_223 ?_ (fun q => absurd (rfl : f1 = f1) q)
                intro _
                refine waload C X17 f0_226 rfl rfl ?_
                refine wiconst C X17 f0_228 (2 : Int32) rfl ?_
                refine wbaloadZ C X17 eq17 V13 f0_229 ⟨by decide, by decide⟩ (i := 2) rfl (v := f2) rfl ?_
                refine wiload C X17 f0_230 rfl ?_
                refine wicmp_ne C X17 f0_232 ?_ (fun q => absurd (rfl : f2 = f2) q)
                intro _
                refine wiconst C X17 f0_235 (1 : Int32) rfl ?_
                refine wgoto C X17 f0_236 ?_
                refine wistore C X17 f0_240 #[.val (.int i0), .val (.int i1), .val (.int i2), .val (.int fl), .val (.int ee), .val (.double (FP.i2d i0)), .second, .val (.double (FP.i2d i1)), .second, .val (.double (FP.i2d i2)), .second, .val (.int f0), .val (.int f1), .val (.int f2), .val (.int al), .val (.ref b5), .val (.ref b9), .val (.double (own_st f2 (2 : Int32) al (own_st f1 (1 : Int32) al (own_st f0 (0 : Int32) al FP.dconst0 (FP.i2d i0)) (FP.i2d i1)) (FP.i2d i2))), .second, .val (.double (own_tot f0 f1 f2 al (FP.i2d i0) (FP.i2d i1) (FP.i2d i2))), .second, .val (.int (1 : Int32))] rfl ?_
                refine wdload C X17 f0_242 rfl ?_
                refine wdload C X17 f0_244 rfl ?_
                refine wdcmp C X17 f0_246 (v := (cmpValue (FP.dcmp (own_tot f0 f1 f2 al (FP.i2d i0) (FP.i2d i1) (FP.i2d i2)) (own_st f2 (2 : Int32) al (own_st f1 (1 : Int32) al (own_st f0 (0 : Int32) al FP.dconst0 (FP.i2d i0)) (FP.i2d i1)) (FP.i2d i2))) .l)) rfl ?_
                refine wif_ne C X17 f0_247 ?_ (fun q => absurd (dcmpV_self (own_ok_nn (own_tot_ok (own_ok_i i0) (own_ok_i i1) (own_ok_i i2))) _) q)
                intro _
                refine wiload C X17 f0_250 rfl ?_
                refine wif_eq C X17 f0_252 (fun q => absurd q (by decide : ¬ ((1 : Int32) = (0 : Int32)))) ?_
                intro _
                refine wiconst C X17 f0_255 (1 : Int32) rfl ?_
                refine wgoto C X17 f0_256 ?_
                refine wiretN C X17 (t := .boolean) (by simp) f0_260 rfl (1 : Int32) (by decide) (by decide) (by decide) ?_
                rw [eq17]
                exact ⟨rfl, N17⟩
              refine wiload C X13 f0_149 rfl ?_
              refine wif_ne C X13 f0_151 (fun hc151 => ?_) (fun hc151 => ?_)
              · refine wiload C X13 f0_154 rfl ?_
                refine wiconst C X13 f0_156 (2 : Int32) rfl ?_
                refine wicmp_ne C X13 f0_157 (fun hc157 => ?_) (fun hc157 => ?_)
                · refine wdload C X13 f0_160 rfl ?_
                  refine wdload C X13 f0_162 rfl ?_
                  refine wdadd C X13 f0_164 (v := (FP.dadd (own_st f1 (1 : Int32) al (own_st f0 (0 : Int32) al FP.dconst0 (FP.i2d i0)) (FP.i2d i1)) (FP.i2d i2))) rfl (own_ok_nn (own_ok_add (own_st_ok (own_st_ok own_ok_0 (own_ok_i i0) (by decide)) (own_ok_i i1) (by decide)) (own_ok_i i2) (by decide))) ?_
                  refine wdstore C X13 f0_165 #[.val (.int i0), .val (.int i1), .val (.int i2), .val (.int fl), .val (.int ee), .val (.double (FP.i2d i0)), .second, .val (.double (FP.i2d i1)), .second, .val (.double (FP.i2d i2)), .second, .val (.int f0), .val (.int f1), .val (.int f2), .val (.int al), .val (.ref b5), .val (.ref b9), .val (.double (FP.dadd (own_st f1 (1 : Int32) al (own_st f0 (0 : Int32) al FP.dconst0 (FP.i2d i0)) (FP.i2d i1)) (FP.i2d i2))), .second, .unset, .unset, .unset] rfl ?_
                  exact J16 (FP.dadd (own_st f1 (1 : Int32) al (own_st f0 (0 : Int32) al FP.dconst0 (FP.i2d i0)) (FP.i2d i1)) (FP.i2d i2)) (((if_pos hc151).trans (if_pos hc157)).symm)
                · exact J16 (own_st f1 (1 : Int32) al (own_st f0 (0 : Int32) al FP.dconst0 (FP.i2d i0)) (FP.i2d i1)) (((if_pos hc151).trans (if_neg hc157)).symm)
              · refine wdload C X13 f0_160 rfl ?_
                refine wdload C X13 f0_162 rfl ?_
                refine wdadd C X13 f0_164 (v := (FP.dadd (own_st f1 (1 : Int32) al (own_st f0 (0 : Int32) al FP.dconst0 (FP.i2d i0)) (FP.i2d i1)) (FP.i2d i2))) rfl (own_ok_nn (own_ok_add (own_st_ok (own_st_ok own_ok_0 (own_ok_i i0) (by decide)) (own_ok_i i1) (by decide)) (own_ok_i i2) (by decide))) ?_
                refine wdstore C X13 f0_165 #[.val (.int i0), .val (.int i1), .val (.int i2), .val (.int fl), .val (.int ee), .val (.double (FP.i2d i0)), .second, .val (.double (FP.i2d i1)), .second, .val (.double (FP.i2d i2)), .second, .val (.int f0), .val (.int f1), .val (.int f2), .val (.int al), .val (.ref b5), .val (.ref b9), .val (.double (FP.dadd (own_st f1 (1 : Int32) al (own_st f0 (0 : Int32) al FP.dconst0 (FP.i2d i0)) (FP.i2d i1)) (FP.i2d i2))), .second, .unset, .unset, .unset] rfl ?_
                exact J16 (FP.dadd (own_st f1 (1 : Int32) al (own_st f0 (0 : Int32) al FP.dconst0 (FP.i2d i0)) (FP.i2d i1)) (FP.i2d i2)) ((if_neg hc151).symm)
            refine wiload C X13 f0_131 rfl ?_
            refine wif_ne C X13 f0_133 (fun hc133 => ?_) (fun hc133 => ?_)
            · refine wiload C X13 f0_136 rfl ?_
              refine wiconst C X13 f0_138 (1 : Int32) rfl ?_
              refine wicmp_ne C X13 f0_139 (fun hc139 => ?_) (fun hc139 => ?_)
              · refine wdload C X13 f0_142 rfl ?_
                refine wdload C X13 f0_144 rfl ?_
                refine wdadd C X13 f0_146 (v := (FP.dadd (own_st f0 (0 : Int32) al FP.dconst0 (FP.i2d i0)) (FP.i2d i1))) rfl (own_ok_nn (own_ok_add (own_st_ok own_ok_0 (own_ok_i i0) (by decide)) (own_ok_i i1) (by decide))) ?_
                refine wdstore C X13 f0_147 #[.val (.int i0), .val (.int i1), .val (.int i2), .val (.int fl), .val (.int ee), .val (.double (FP.i2d i0)), .second, .val (.double (FP.i2d i1)), .second, .val (.double (FP.i2d i2)), .second, .val (.int f0), .val (.int f1), .val (.int f2), .val (.int al), .val (.ref b5), .val (.ref b9), .val (.double (FP.dadd (own_st f0 (0 : Int32) al FP.dconst0 (FP.i2d i0)) (FP.i2d i1))), .second, .unset, .unset, .unset] rfl ?_
                exact J15 (FP.dadd (own_st f0 (0 : Int32) al FP.dconst0 (FP.i2d i0)) (FP.i2d i1)) (((if_pos hc133).trans (if_pos hc139)).symm)
              · exact J15 (own_st f0 (0 : Int32) al FP.dconst0 (FP.i2d i0)) (((if_pos hc133).trans (if_neg hc139)).symm)
            · refine wdload C X13 f0_142 rfl ?_
              refine wdload C X13 f0_144 rfl ?_
              refine wdadd C X13 f0_146 (v := (FP.dadd (own_st f0 (0 : Int32) al FP.dconst0 (FP.i2d i0)) (FP.i2d i1))) rfl (own_ok_nn (own_ok_add (own_st_ok own_ok_0 (own_ok_i i0) (by decide)) (own_ok_i i1) (by decide))) ?_
              refine wdstore C X13 f0_147 #[.val (.int i0), .val (.int i1), .val (.int i2), .val (.int fl), .val (.int ee), .val (.double (FP.i2d i0)), .second, .val (.double (FP.i2d i1)), .second, .val (.double (FP.i2d i2)), .second, .val (.int f0), .val (.int f1), .val (.int f2), .val (.int al), .val (.ref b5), .val (.ref b9), .val (.double (FP.dadd (own_st f0 (0 : Int32) al FP.dconst0 (FP.i2d i0)) (FP.i2d i1))), .second, .unset, .unset, .unset] rfl ?_
              exact J15 (FP.dadd (own_st f0 (0 : Int32) al FP.dconst0 (FP.i2d i0)) (FP.i2d i1)) ((if_neg hc133).symm)
          refine wiload C X13 f0_114 rfl ?_
          refine wif_ne C X13 f0_116 (fun hc116 => ?_) (fun hc116 => ?_)
          · refine wiload C X13 f0_119 rfl ?_
            refine wif_ne C X13 f0_121 (fun hc121 => ?_) (fun hc121 => ?_)
            · refine wdload C X13 f0_124 rfl ?_
              refine wdload C X13 f0_126 rfl ?_
              refine wdadd C X13 f0_128 (v := (FP.dadd FP.dconst0 (FP.i2d i0))) rfl (own_ok_nn (own_ok_add own_ok_0 (own_ok_i i0) (by decide))) ?_
              refine wdstore C X13 f0_129 #[.val (.int i0), .val (.int i1), .val (.int i2), .val (.int fl), .val (.int ee), .val (.double (FP.i2d i0)), .second, .val (.double (FP.i2d i1)), .second, .val (.double (FP.i2d i2)), .second, .val (.int f0), .val (.int f1), .val (.int f2), .val (.int al), .val (.ref b5), .val (.ref b9), .val (.double (FP.dadd FP.dconst0 (FP.i2d i0))), .second, .unset, .unset, .unset] rfl ?_
              exact J14 (FP.dadd FP.dconst0 (FP.i2d i0)) (((if_pos hc116).trans (if_pos hc121)).symm)
            · exact J14 FP.dconst0 (((if_pos hc116).trans (if_neg hc121)).symm)
          · refine wdload C X13 f0_124 rfl ?_
            refine wdload C X13 f0_126 rfl ?_
            refine wdadd C X13 f0_128 (v := (FP.dadd FP.dconst0 (FP.i2d i0))) rfl (own_ok_nn (own_ok_add own_ok_0 (own_ok_i i0) (by decide))) ?_
            refine wdstore C X13 f0_129 #[.val (.int i0), .val (.int i1), .val (.int i2), .val (.int fl), .val (.int ee), .val (.double (FP.i2d i0)), .second, .val (.double (FP.i2d i1)), .second, .val (.double (FP.i2d i2)), .second, .val (.int f0), .val (.int f1), .val (.int f2), .val (.int al), .val (.ref b5), .val (.ref b9), .val (.double (FP.dadd FP.dconst0 (FP.i2d i0))), .second, .unset, .unset, .unset] rfl ?_
            exact J14 (FP.dadd FP.dconst0 (FP.i2d i0)) ((if_neg hc116).symm)
        refine wif_eq C X0 f0_55 (fun hc55 => ?_) (fun hc55 => ?_)
        · refine wiload C X0 f0_63 rfl ?_
          refine wiconst C X0 f0_65 (3 : Int32) rfl ?_
          refine wiand C X0 f0_66 ?_
          refine wiconst C X0 f0_67 (1 : Int32) rfl ?_
          refine wisub C X0 f0_68 ?_
          exact J4 ((ee &&& (3 : Int32)) - (1 : Int32))
        · refine wiload C X0 f0_58 rfl ?_
          refine wgoto C X0 f0_60 ?_
          exact J4 ee
      refine wif_eq C X0 f0_41 (fun hc41 => ?_) (fun hc41 => ?_)
      · refine wiconst C X0 f0_48 (0 : Int32) rfl ?_
        exact J3 (0 : Int32) (Or.inl rfl)
      · refine wiconst C X0 f0_44 (1 : Int32) rfl ?_
        refine wgoto C X0 f0_45 ?_
        exact J3 (1 : Int32) (Or.inr rfl)
    refine wif_eq C X0 f0_28 (fun hc28 => ?_) (fun hc28 => ?_)
    · refine wiconst C X0 f0_35 (0 : Int32) rfl ?_
      exact J2 (0 : Int32) (Or.inl rfl)
    · refine wiconst C X0 f0_31 (1 : Int32) rfl ?_
      refine wgoto C X0 f0_32 ?_
      exact J2 (1 : Int32) (Or.inr rfl)
  refine wif_eq C X0 f0_15 (fun hc15 => ?_) (fun hc15 => ?_)
  · refine wiconst C X0 f0_22 (0 : Int32) rfl ?_
    exact J1 (0 : Int32) (Or.inl rfl)
  · refine wiconst C X0 f0_18 (1 : Int32) rfl ?_
    refine wgoto C X0 f0_19 ?_
    exact J1 (1 : Int32) (Or.inr rfl)
set_option maxRecDepth 65536 in
set_option maxHeartbeats 40000000 in
theorem comes_1 {Post : Tables → Env → Array Value → State → Outcome → State → Prop} (hpost : ∀ tb e args s v u, (limb_1_1.after args s (.returned v) u = true ∧ limb_1_2.after args s (.returned v) u = true ∧ True) → FrameEnd s (.returned v) u (Jvm.fieldLocs frame_1_writes args s ++ Jvm.arrayLocs frame_1_arrays args s ++ Jvm.staticLocs frame_1_statics s) 16 128 → Post tb e args s (.returned v) u) :
    ArmFor flags0 classFile x code maxLocals ret World_1 tables_1 room_1 Calls_1 rest_1 Pre_1 Post := by
  intro l hfl _ _ p e ha hc hk s m args below hf hA hF happ hP
  obtain ⟨hcalls, hrest, hpre⟩ := hP
  obtain ⟨-, -, -, hnamed, -, -, -, hat⟩ := (Spec.applies_iff hf).mp happ
  obtain ⟨hg, hn⟩ := and_e (Cond.before_iff.mp (show (Jvm.Cond.and given_1 narrow_1).before args s = true from hpre))
  obtain ⟨hg0, hr0⟩ := and_e hg
  obtain ⟨hg1, hr1⟩ := and_e hr0
  obtain ⟨hg2, hr2⟩ := and_e hr1
  obtain ⟨hg3, hr3⟩ := and_e hr2
  obtain ⟨hg4, hr4⟩ := and_e hr3
  obtain ⟨w0, w1, w2, w3, w4, rfl⟩ : ∃ w0 w1 w2 w3 w4 : Value, args = #[w0, w1, w2, w3, w4] := by
    have hs : args.size = 5 := by simpa [Cond.value, given_1] using hg0
    obtain ⟨L⟩ := args
    match L, hs with
    | [w0, w1, w2, w3, w4], _ => exact ⟨w0, w1, w2, w3, w4, rfl⟩
  have hw := fun d (hd : d ∈ tables_1) => atoms_spec (ws := Jvm.Cond.code x code maxLocals ret :: tables_1) hat d (List.mem_cons_of_mem _ hd)
  have hfit : Fit s := fun {y c} hc i hi => by
    obtain ⟨ha, rfl⟩ := Array.getElem?_eq_some_iff.mp hc
    have q := List.all_eq_true.mp ((Array.all_eq_true_iff_forall_mem.mp hF) _ (Array.getElem_mem ha)) i (List.mem_range.mpr hi)
    simpa [Array.getElem?_eq_getElem hi] using q
  obtain ⟨i0, ei0⟩ := is_v hg1
  obtain rfl : w0 = (.int i0) := Option.some.inj ei0
  obtain ⟨i1, ei1⟩ := is_v hg2
  obtain rfl : w1 = (.int i1) := Option.some.inj ei1
  obtain ⟨i2, ei2⟩ := is_v hg3
  obtain rfl : w2 = (.int i2) := Option.some.inj ei2
  obtain ⟨i3, ei3⟩ := is_v hg4
  obtain rfl : w3 = (.int i3) := Option.some.inj ei3
  obtain ⟨i4, ei4⟩ := is_v hr4
  obtain rfl : w4 = (.int i4) := Option.some.inj ei4
  obtain ⟨n, o, h1, h2, h3, _, L, rfl, ⟨rfl, N⟩, hq⟩ := rm0 l s _ hw tables_1 i0 i1 i2 i3 i4 s.heap s.heap.size (Nat.le_refl _) p e ha hc hk s m _ below hf ((Spec.applies_iff_loose hf).mp happ).1 ⟨rfl, State.Warmed39.refl s, rfl⟩ trivial
  refine ⟨n, _, h1, h2, h3, hpost _ _ _ _ _ _ ⟨Cond.after_iff.mpr rfl, Cond.after_iff.mpr (eq_i res_at (Term.int_eval (1)) rfl), trivial⟩ ⟨hq.1, hq.2.1, (hq.2.2.sift fun y hy => Or.inr (N y hy)).mono (by decide) (by decide)⟩⟩
theorem main_1_1 : Claimed_1_1 := comes_1 fun _ _ _ _ _ _ h hF => ⟨h.1, hF⟩
theorem main_1_2 : Claimed_1_2 := comes_1 fun _ _ _ _ _ _ h hF => ⟨h.2.1, hF⟩
end Jvm.Pilot.@@N@@
-- WITNESS
namespace Jvm.Pilot.@@N@@
open Jvm Jvm.ClassFile Sem Op Lib Jvm.Free Jvm.Stand Jvm.Pilot.@@N@@.Jvm.D
/-! MADE BY PROGRAM (witnessworld.py) out of the Statement's table words and the real class files: 13 classes; the members and pool entries that the words name. The judged class is class 1, her method 1. -/
namespace start1
open Jvm.ClassFile
def u (s : String) : CpInfo := .utf8 (stringToUtf16 s)
/-- a pool by its gaps: so many unusable entries, then the entry; so many at the end -/
def gap : Nat → List CpInfo → List CpInfo
  | 0, r => r
  | n + 1, r => .unusable :: gap n r
def poolList (es : List (Nat × CpInfo)) (last : Nat) : List CpInfo := es.foldr (fun e r => gap e.1 (e.2 :: r)) (gap last [])
def pool (es : List (Nat × CpInfo)) (last : Nat) : Array CpInfo := ⟨poolList es last⟩
def fileOf (pool : Array CpInfo) (this : Nat) (attrs : Array Attribute := #[]) (ms : Array MethodInfo := #[]) (fl : Nat := 33) (sup : Nat := 0) (ifs : Array Nat := #[]) (fds : Array FieldInfo := #[]) : ClassFile where
  minorVersion := 0
  majorVersion := 65
  constantPool := pool
  accessFlags := fl
  thisClass := this
  superClass := sup
  interfaces := ifs
  fields := fds
  methods := ms
  attributes := attrs
def plain (name : String) (sup : Option ClassId) : Class where
  name := name
  kind := .ordinary
  loader := none
  accessFlags := 33
  super := sup
  interfaces := #[]
  cf := none
  fields := #[]
  methods := #[]
  instanceTypes := #[]
  staticTypes := #[]
  resolved := #[]
  callSites := []
  init := .initialized
  statics := none
  mirror := none

def pool0 : Array CpInfo := pool [(5, u "<init>"), (0, u "()V"), (1, .class_ 10), (1, u "java/lang/Object")] 113

def k0m0 : Method := { name := "<init>", desc := "()V", sig := { parameters := [], returnType := none }, accessFlags := 1, code := none }
/-- java/lang/Object -/
def k0 : Class := { plain "java/lang/Object" none with
  accessFlags := 33
  interfaces := #[]
  cf := some (fileOf pool0 8 #[] #[{ accessFlags := 1, nameIndex := 5, descriptorIndex := 6, attributes := #[] }] 33 0 #[] #[])
  fields := #[]
  methods := #[k0m0]
  instanceTypes := #[]
  staticTypes := #[]
  resolved := Array.replicate 124 none
  statics := none }

def pool1 : Array CpInfo := pool [(2, .class_ 4), (1, u "java/lang/Object"), (0, u "<init>"), (0, u "()V"), (0, .methodref 8 9), (0, .class_ 10), (0, .nameAndType 11 12), (0, u "com/example/hornwork/hornwork/Sums"), (0, u "totalWith"), (0, u "([D[ZI)D"), (0, .class_ 14), (0, u "com/example/hornwork/hornwork/SumsTotalWithPinLaw"), (2, u "law"), (0, u "(IIIII)Z")] 7

def k1m0 : Method := { name := "<init>", desc := "()V", sig := { parameters := [], returnType := none }, accessFlags := 1, code := none }
def k1c1 : Code := { maxStack := 5, maxLocals := 22, code := code, exceptionTable := #[], attributes := #[] }
def k1m1 : Method := { name := "law", desc := "(IIIII)Z", sig := { parameters := [.int, .int, .int, .int, .int], returnType := some .boolean }, accessFlags := 9, code := some k1c1 }
/-- com/example/hornwork/hornwork/SumsTotalWithPinLaw -/
def k1 : Class := { plain "com/example/hornwork/hornwork/SumsTotalWithPinLaw" (some 0) with
  accessFlags := 49
  interfaces := #[]
  cf := some (fileOf pool1 13 #[] #[{ accessFlags := 1, nameIndex := 5, descriptorIndex := 6, attributes := #[] }, { accessFlags := 9, nameIndex := 17, descriptorIndex := 18, attributes := #[] }] 49 2 #[] #[])
  fields := #[]
  methods := #[k1m0, k1m1]
  instanceTypes := #[]
  staticTypes := #[]
  resolved := Array.replicate 26 none
  statics := none }

def pool2 : Array CpInfo := pool [(2, .class_ 4), (1, u "java/lang/Object"), (0, u "<init>"), (0, u "()V"), (0, .class_ 8), (0, u "com/example/hornwork/hornwork/Sums"), (4, u "totalWith"), (0, u "([D[ZI)D"), (23, u "RELATIVE_SLACK"), (0, u "D")] 8

def k2m0 : Method := { name := "<init>", desc := "()V", sig := { parameters := [], returnType := none }, accessFlags := 2, code := none }
def k2c1 : Code := { maxStack := 4, maxLocals := 6, code := prog_37_method_4_code, exceptionTable := #[], attributes := #[] }
def k2m1 : Method := { name := "totalWith", desc := "([D[ZI)D", sig := { parameters := [(.array .double), (.array .boolean), .int], returnType := some .double }, accessFlags := 8, code := some k2c1 }
/-- com/example/hornwork/hornwork/Sums -/
def k2 : Class := { plain "com/example/hornwork/hornwork/Sums" (some 0) with
  accessFlags := 48
  interfaces := #[]
  cf := some (fileOf pool2 7 #[] #[{ accessFlags := 2, nameIndex := 5, descriptorIndex := 6, attributes := #[] }, { accessFlags := 8, nameIndex := 13, descriptorIndex := 14, attributes := #[] }] 48 2 #[] #[{ accessFlags := 26, nameIndex := 38, descriptorIndex := 39, attributes := #[] }])
  fields := #[{ name := "RELATIVE_SLACK", type := .double, accessFlags := 26, slot := 0, constantValue := 0 }]
  methods := #[k2m0, k2m1]
  instanceTypes := #[]
  staticTypes := #[.double]
  resolved := Array.replicate 48 none
  statics := none }

def pool3 : Array CpInfo := pool [(1, u "java/lang/Cloneable"), (0, .class_ 1), (0, u "java/lang/Object"), (0, .class_ 3)] 3

/-- java/lang/Cloneable -/
def k3 : Class := { plain "java/lang/Cloneable" (some 0) with
  accessFlags := 1537
  interfaces := #[]
  cf := some (fileOf pool3 2 #[] #[] 1537 4 #[] #[])
  fields := #[]
  methods := #[]
  instanceTypes := #[]
  staticTypes := #[]
  resolved := Array.replicate 8 none
  statics := none }

def pool4 : Array CpInfo := pool [(1, u "java/io/Serializable"), (0, .class_ 1), (0, u "java/lang/Object"), (0, .class_ 3)] 3

/-- java/io/Serializable -/
def k4 : Class := { plain "java/io/Serializable" (some 0) with
  accessFlags := 1537
  interfaces := #[]
  cf := some (fileOf pool4 2 #[] #[] 1537 4 #[] #[])
  fields := #[]
  methods := #[]
  instanceTypes := #[]
  staticTypes := #[]
  resolved := Array.replicate 8 none
  statics := none }

/-- the primitive boolean -/
def k5 : Class := { plain "boolean" none with kind := .primitive 'Z', accessFlags := 0x411 }
/-- [Z -/
def k6 : Class := { plain "[Z" (some 0) with kind := .array 5 .boolean, interfaces := #[3, 4], accessFlags := 1041 }

/-- the primitive byte -/
def k7 : Class := { plain "byte" none with kind := .primitive 'B', accessFlags := 0x411 }
/-- [B -/
def k8 : Class := { plain "[B" (some 0) with kind := .array 7 .byte, interfaces := #[3, 4], accessFlags := 1041 }

/-- the primitive double -/
def k9 : Class := { plain "double" none with kind := .primitive 'D', accessFlags := 0x411 }
/-- [D -/
def k10 : Class := { plain "[D" (some 0) with kind := .array 9 .double, interfaces := #[3, 4], accessFlags := 1041 }

/-- the primitive int -/
def k11 : Class := { plain "int" none with kind := .primitive 'I', accessFlags := 0x411 }
/-- [I -/
def k12 : Class := { plain "[I" (some 0) with kind := .array 11 .int, interfaces := #[3, 4], accessFlags := 1041 }

def heap : Heap := #[]
def classes : Array Class := #[k0, k1, k2, k3, k4, k5, k6, k7, k8, k9, k10, k11, k12]
def interned : List (Array UInt16 × Addr) := []
def slotsUsed : Nat := 0
def theMethod : MethodId := ⟨1, 1⟩
def args0 : Array Value := #[.int 5, .int 5, .int 5, .int 5, .int 5]
def aboutOver (below : List Frame) : State where
  vm := { classes := classes, interned := interned.toArray }
  heap := heap
  slotsUsed := slotsUsed
  threads := #[{ frames := .invoking theMethod args0 :: below }]
def below0 : List Frame := [.native { method := ⟨0, 0⟩, args := #[] }]
def about1 : State := aboutOver below0
def p0 : Program := .bare "" "" ""
def e0 : Env := launch0.env 0 0 0
theorem w_frames : about1.frames = Frame.invoking theMethod args0 :: below0 := rfl
set_option maxRecDepth 65536 in
theorem w_args : argsFit about1.vm theMethod args0 = true := by decide +kernel
set_option maxRecDepth 65536 in
theorem w_heap : heapFits about1 = true := by decide +kernel
set_option maxRecDepth 65536 in
theorem w_runnable : about1.curStatus? = some .runnable := by decide +kernel
set_option maxRecDepth 65536 in
theorem w_alone : about1.alone = true := by decide +kernel
set_option maxRecDepth 65536 in
theorem w_named : about1.methodNamed? x = some theMethod := by decide +kernel
set_option maxRecDepth 65536 in
theorem w_hears : about1.hears theMethod below0 = true := by decide +kernel
set_option maxRecDepth 65536 in
theorem w_ripe : about1.ripe theMethod args0 below0 = true := by decide +kernel
theorem w_running : about1.status = .running := rfl
set_option maxRecDepth 65536 in
theorem w_room : about1.hasRoom e0.platform room_1 = true :=
  launch0.hasRoom_least _ room_1 (by decide +kernel) (by decide +kernel) (by decide +kernel) (by decide +kernel) (by decide +kernel) (by decide +kernel)
theorem allAtoms_all (ts : List Jvm.Cond) (a : Array Jvm.Value) (st : Jvm.State) : (allAtoms ts).before a st = ts.all (fun c => c.before a st) := by
  induction ts with
  | nil => rfl
  | cons c t ih =>
    show (Jvm.Cond.and c (allAtoms t)).before a st = _
    rw [Jvm.Cond.before_and, ih, List.all_cons]
def words1 : List Jvm.Cond := Jvm.Cond.code x code maxLocals ret :: tables_1
/-- a 'code' word, met by the world's own term for the bytes: nothing is compared byte by byte -/
theorem code_word {y : MethodName} {bytes : ByteArray} {mx : Nat} {rt : Option FieldType} {a : Array Value} {s : State} {m : MethodId} {meth : Method} {c : Code} (h1 : s.methodNamed? y = some m) (h2 : s.vm.method? m = some meth) (h3 : meth.code = some c) (h4 : c.code = bytes)
    (h5 : (c.maxLocals == mx && c.exceptionTable.isEmpty && decide (c.maxStack ≤ mostOperands) && decide (meth.sig.returnType = rt) && !meth.locks && decide (parseMethodDescriptor y.desc = some meth.sig)) = true) : (Jvm.Cond.code y bytes mx rt).before a s = true := by
  simp only [Bool.and_eq_true, beq_iff_eq, Bool.not_eq_true', decide_eq_true_eq] at h5
  obtain ⟨⟨⟨⟨⟨g1, g2⟩, g3⟩, g4⟩, g5⟩, g6⟩ := h5
  simp [Cond.before, Cond.holds, Cond.value, h1, h2, h3, h4, g1, g2, g3, g4, g5, g6]
def isCode : Jvm.Cond → Bool
  | .code _ _ _ _ => true
  | _ => false
theorem all_split {L : List Jvm.Cond} {P : Jvm.Cond → Bool} (h1 : L.all (fun c => isCode c || P c) = true) (h2 : ∀ c ∈ L.filter isCode, P c = true) : L.all P = true := by
  refine List.all_eq_true.mpr fun c hc => ?_
  have h := List.all_eq_true.mp h1 c hc
  rcases Bool.eq_false_or_eq_true (isCode c) with hi | hi
  · exact h2 c (List.mem_filter.mpr ⟨hc, hi⟩)
  · simpa [hi] using h
set_option maxRecDepth 65536 in
theorem w_c0 : (Jvm.Cond.code x code maxLocals ret).before args0 about1 = true := code_word (m := ⟨1, 1⟩) (meth := k1m1) (c := k1c1) (by decide +kernel) rfl rfl rfl (by decide +kernel)
set_option maxRecDepth 65536 in
theorem w_c1 : (Jvm.Cond.code ({ cls := "com/example/hornwork/hornwork/Sums", name := "totalWith", desc := "([D[ZI)D" } : Jvm.MethodName) prog_37_method_4_code (6 : Nat) (Option.some Jvm.ClassFile.FieldType.double)).before args0 about1 = true := code_word (m := ⟨2, 1⟩) (meth := k2m1) (c := k2c1) (by decide +kernel) rfl rfl rfl (by decide +kernel)
def codes1 : List Jvm.Cond := [Jvm.Cond.code x code maxLocals ret, Jvm.Cond.code ({ cls := "com/example/hornwork/hornwork/Sums", name := "totalWith", desc := "([D[ZI)D" } : Jvm.MethodName) prog_37_method_4_code (6 : Nat) (Option.some Jvm.ClassFile.FieldType.double)]
set_option maxRecDepth 65536 in
theorem codes_eq : words1.filter isCode = codes1 := rfl
theorem w_codes : ∀ c ∈ words1.filter isCode, c.before args0 about1 = true := by
  rw [codes_eq]
  intro c hc
  simp only [codes1, List.mem_cons, List.not_mem_nil, or_false] at hc
  rcases hc with rfl | rfl
  · exact w_c0
  · exact w_c1
set_option maxRecDepth 65536 in
theorem w_t1 : words1.all (fun c => isCode c || c.before args0 about1) = true := by decide +kernel
theorem w_tables : (allAtoms (Jvm.Cond.code x code maxLocals ret :: tables_1)).before args0 about1 = true := by
  rw [allAtoms_all]
  show words1.all (fun c => c.before args0 about1) = true
  refine all_split ?_ w_codes
  rw [w_t1]
set_option maxRecDepth 65536 in
theorem w_case : (Jvm.Cond.and given_1 narrow_1).before args0 about1 = true := by decide +kernel
theorem w_applies : (headSpec (Jvm.Cond.code x code maxLocals ret :: tables_1) room_1).applies x e0.platform about1 = true :=
  (Spec.applies_iff w_frames).mpr ⟨w_running, w_runnable, w_alone, w_named, w_hears, w_ripe, w_room, w_tables⟩
theorem atStart : AtStart classFile x code maxLocals ret World_1 tables_1 room_1 Calls_1 rest_1 Pre_1 launch0 p0 e0 about1 theMethod args0 below0 :=
  ⟨lists_1, trivial, launch0.admits_env _ _ _, launch0.least_env, fairChoices_fair.cas, fairChoices_fair.clock, w_frames, w_args, w_heap, w_applies, trivial, trivial, w_case⟩
end start1
theorem witness_1 : WitnessClaimed_1 := ⟨start1.p0, start1.e0, start1.about1, start1.theMethod, start1.args0, start1.below0, start1.atStart⟩
end Jvm.Pilot.@@N@@
