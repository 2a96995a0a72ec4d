import JvmDerived
import JvmDerived.Pilot.@@N@@Statement
import JvmDerived.Pilot.@@N@@Code
set_option linter.unusedVariables false
set_option linter.unusedSimpArgs false

namespace Jvm.Pilot.@@N@@
open Jvm Jvm.ClassFile Sem Op Lib Jvm.Free Jvm.Stand Jvm.LawKit Jvm.RoadKit Bundle Jvm.Pilot.@@N@@.Jvm.D
section Kit
variable {p : Program} {l : Launch} {e : Env} {R : Room} {s : State} {m : MethodId} {args : Array Value} {below : List Frame} {meth : Method} {c : Code} {T : State} {locs : List Loc} {cells slots : Nat} {Z : State} {a0 : Array Value} {bc : ByteArray} {ml : Nat} {own nm : String} {rt : Option FieldType} {Q : Option Value → Heap → List Loc → Prop} {kC kS pc pc' : Nat} {Ls : Array Slot} {S : List Value} {h : Heap}
def Dec (b : ByteArray) (pc : Nat) (i : Instr) (n pc' : Nat) : Prop := decode b pc = .ok (i, n) ∧ pc' = pc + n
def DecJ (b : ByteArray) (pc : Nat) (i : Instr) (o : Int) (tgt nxt : Nat) : Prop := decode b pc = .ok (i, 3) ∧ 0 ≤ (pc : Int) + o ∧ ((pc : Int) + o).toNat = tgt ∧ nxt = pc + 3
def Cur (p : Program) (l : Launch) (e : Env) (s : State) (m : MethodId) (meth : Method) (c : Code) (Z : State) (bc : ByteArray) (ml : Nat) (own nm : String) (rt : Option FieldType) : Prop :=
  p.tables.exec = Jvm.exec ∧ Z.Warmed39 s.vm ∧ c.code = bc ∧ c.maxLocals = ml ∧ s.vm.findClass own = some m.cls ∧ meth.sig.returnType = rt ∧ meth.locks = false ∧ meth.name = nm
def Go (p : Program) (e : Env) (below : List Frame) (s : State) (Q : Option Value → Heap → List Loc → Prop) (kC kS : Nat) (T : State) (f : JFrame) : Prop :=
  ∃ s₂ o, Steps p.tables e below (T.setTop f) s₂ ∧ s₂.status = .running ∧ Ended s₂ below o ∧ ∃ v L, o = .returned v ∧ Q v s₂.heap L ∧ FrameEnd s o s₂ L kC kS
theorem Go.step {T T' : State} {f f' : JFrame} (st : ∀ t, Steps p.tables e below (T'.setTop f') t → Steps p.tables e below (T.setTop f) t) (g : Go p e below s Q kC kS T' f') : Go p e below s Q kC kS T f := by
  obtain ⟨s₂, o, h1, r⟩ := g; exact ⟨s₂, o, st _ h1, r⟩
theorem Go.cast {f f' : JFrame} (q : f = f') (g : Go p e below s Q kC kS T f') : Go p e below s Q kC kS T f := q ▸ g
theorem met_of {y : MethodName} {rm : Room} {as' : Array Value} {h0 : Heap} {ws : List Jvm.Cond} {bytes : ByteArray} {maxL : Nat} {ret : Option FieldType} (hpl : plainFor y = true)
    (body : ∀ {p : Program} {e : Env} {s : State} {m : MethodId} {below : List Frame} {meth : Method} {c : Code} {T : State}, Cur p l e s m meth c Z bytes maxL y.cls y.name ret → Stand p l e rm s m as' below meth c T [] 0 0 → T.heap = h0 → Go p e below s Q rm.cells rm.slots T (entryFrame m as' maxL)) :
    MetFree l y (head1 (Jvm.Cond.code y bytes maxL ret :: ws) rm) (fun a U => a = as' ∧ Z.Warmed39 U.vm ∧ U.heap = h0) (fun _ _ _ _ _ => True) (fun _ U o U' => ∃ v L, o = .returned v ∧ Q v U'.heap L ∧ FrameEnd U o U' L rm.cells rm.slots) := by
  refine MetFree.of_bodySF hpl hisR ?_
  intro p e s m args below meth c s₁ Bd hml0 hP hK
  obtain ⟨rfl, hZ, hh⟩ := hP
  exact body ⟨Bd.exec, hZ, Bd.bytes, hml0, findClass_of_methodNamed Bd.named, Bd.returns, Bd.notSynchronized, (name_of_methodNamed Bd.named Bd.method).1⟩ (Stand.of_body Bd) (by rw [← hh, Bd.state]; rfl)
theorem wiloadN (C : Cur p l e s m meth c Z bc ml own nm rt) (X : Stand p l e R s m args below meth c T locs cells slots) {k : Fin 4} {v : Int32} (hd : Dec bc pc (.iload_n k) 1 pc') (hl : Ls[k.val]? = some (.val (.int v))) (g : Go p e below s Q kC kS T (mkF m pc' Ls (.int v :: S))) : Go p e below s Q kC kS T (mkF m pc Ls S) :=
  Go.step (fun _ k => XS.iloadN X.here C.1 rfl (hb C.2.2.1 hd.1) hl k) (by rw [hd.2] at g; exact g)
theorem wiload (C : Cur p l e s m meth c Z bc ml own nm rt) (X : Stand p l e R s m args below meth c T locs cells slots) {k : Nat} {v : Int32} (hd : Dec bc pc (.iload k) 2 pc') (hl : Ls[k]? = some (.val (.int v))) (g : Go p e below s Q kC kS T (mkF m pc' Ls (.int v :: S))) : Go p e below s Q kC kS T (mkF m pc Ls S) :=
  Go.step (fun _ k => XS.iload X.here C.1 rfl (hb C.2.2.1 hd.1) hl k) (by rw [hd.2] at g; exact g)
theorem wistoreN (C : Cur p l e s m meth c Z bc ml own nm rt) (X : Stand p l e R s m args below meth c T locs cells slots) {k : Fin 4} {v : Int32} (hd : Dec bc pc (.istore_n k) 1 pc') (l' : Array Slot) (hl : storeLocals Ls k.val (.int v) = some l') (g : Go p e below s Q kC kS T (mkF m pc' l' S)) : Go p e below s Q kC kS T (mkF m pc Ls (.int v :: S)) :=
  Go.step (fun _ k => XS.istoreN X.here C.1 rfl (hb C.2.2.1 hd.1) rfl hl k) (by rw [hd.2] at g; exact g)
theorem wistore (C : Cur p l e s m meth c Z bc ml own nm rt) (X : Stand p l e R s m args below meth c T locs cells slots) {k : Nat} {v : Int32} (hd : Dec bc pc (.istore k) 2 pc') (l' : Array Slot) (hl : storeLocals Ls k (.int v) = some l') (g : Go p e below s Q kC kS T (mkF m pc' l' S)) : Go p e below s Q kC kS T (mkF m pc Ls (.int v :: S)) :=
  Go.step (fun _ k => XS.istore X.here C.1 rfl (hb C.2.2.1 hd.1) rfl hl k) (by rw [hd.2] at g; exact g)
theorem wlloadN (C : Cur p l e s m meth c Z bc ml own nm rt) (X : Stand p l e R s m args below meth c T locs cells slots) {k : Fin 4} {v : Int64} (hd : Dec bc pc (.lload_n k) 1 pc') (hl : Ls[k.val]? = some (.val (.long v))) (g : Go p e below s Q kC kS T (mkF m pc' Ls (.long v :: S))) : Go p e below s Q kC kS T (mkF m pc Ls S) :=
  Go.step (fun _ k => XS.lloadN X.here C.1 rfl (hb C.2.2.1 hd.1) hl k) (by rw [hd.2] at g; exact g)
theorem wlload (C : Cur p l e s m meth c Z bc ml own nm rt) (X : Stand p l e R s m args below meth c T locs cells slots) {k : Nat} {v : Int64} (hd : Dec bc pc (.lload k) 2 pc') (hl : Ls[k]? = some (.val (.long v))) (g : Go p e below s Q kC kS T (mkF m pc' Ls (.long v :: S))) : Go p e below s Q kC kS T (mkF m pc Ls S) :=
  Go.step (fun _ k => XS.lload X.here C.1 rfl (hb C.2.2.1 hd.1) hl k) (by rw [hd.2] at g; exact g)
theorem wlstoreN (C : Cur p l e s m meth c Z bc ml own nm rt) (X : Stand p l e R s m args below meth c T locs cells slots) {k : Fin 4} {v : Int64} (hd : Dec bc pc (.lstore_n k) 1 pc') (l' : Array Slot) (hl : storeLocals Ls k.val (.long v) = some l') (g : Go p e below s Q kC kS T (mkF m pc' l' S)) : Go p e below s Q kC kS T (mkF m pc Ls (.long v :: S)) :=
  Go.step (fun _ k => XS.lstoreN X.here C.1 rfl (hb C.2.2.1 hd.1) rfl hl k) (by rw [hd.2] at g; exact g)
theorem wlstore (C : Cur p l e s m meth c Z bc ml own nm rt) (X : Stand p l e R s m args below meth c T locs cells slots) {k : Nat} {v : Int64} (hd : Dec bc pc (.lstore k) 2 pc') (l' : Array Slot) (hl : storeLocals Ls k (.long v) = some l') (g : Go p e below s Q kC kS T (mkF m pc' l' S)) : Go p e below s Q kC kS T (mkF m pc Ls (.long v :: S)) :=
  Go.step (fun _ k => XS.lstore X.here C.1 rfl (hb C.2.2.1 hd.1) rfl hl k) (by rw [hd.2] at g; exact g)
theorem wdloadN (C : Cur p l e s m meth c Z bc ml own nm rt) (X : Stand p l e R s m args below meth c T locs cells slots) {k : Fin 4} {v : UInt64} (hd : Dec bc pc (.dload_n k) 1 pc') (hl : Ls[k.val]? = some (.val (.double v))) (g : Go p e below s Q kC kS T (mkF m pc' Ls (.double v :: S))) : Go p e below s Q kC kS T (mkF m pc Ls S) :=
  Go.step (fun _ k => XS.dloadN X.here C.1 rfl (hb C.2.2.1 hd.1) hl k) (by rw [hd.2] at g; exact g)
theorem wdload (C : Cur p l e s m meth c Z bc ml own nm rt) (X : Stand p l e R s m args below meth c T locs cells slots) {k : Nat} {v : UInt64} (hd : Dec bc pc (.dload k) 2 pc') (hl : Ls[k]? = some (.val (.double v))) (g : Go p e below s Q kC kS T (mkF m pc' Ls (.double v :: S))) : Go p e below s Q kC kS T (mkF m pc Ls S) :=
  Go.step (fun _ k => XS.dload X.here C.1 rfl (hb C.2.2.1 hd.1) hl k) (by rw [hd.2] at g; exact g)
theorem wdstoreN (C : Cur p l e s m meth c Z bc ml own nm rt) (X : Stand p l e R s m args below meth c T locs cells slots) {k : Fin 4} {v : UInt64} (hd : Dec bc pc (.dstore_n k) 1 pc') (l' : Array Slot) (hl : storeLocals Ls k.val (.double v) = some l') (g : Go p e below s Q kC kS T (mkF m pc' l' S)) : Go p e below s Q kC kS T (mkF m pc Ls (.double v :: S)) :=
  Go.step (fun _ k => XS.dstoreN X.here C.1 rfl (hb C.2.2.1 hd.1) rfl hl k) (by rw [hd.2] at g; exact g)
theorem wdstore (C : Cur p l e s m meth c Z bc ml own nm rt) (X : Stand p l e R s m args below meth c T locs cells slots) {k : Nat} {v : UInt64} (hd : Dec bc pc (.dstore k) 2 pc') (l' : Array Slot) (hl : storeLocals Ls k (.double v) = some l') (g : Go p e below s Q kC kS T (mkF m pc' l' S)) : Go p e below s Q kC kS T (mkF m pc Ls (.double v :: S)) :=
  Go.step (fun _ k => XS.dstore X.here C.1 rfl (hb C.2.2.1 hd.1) rfl hl k) (by rw [hd.2] at g; exact g)
theorem waloadN (C : Cur p l e s m meth c Z bc ml own nm rt) (X : Stand p l e R s m args below meth c T locs cells slots) {k : Fin 4} {v : Value} (hd : Dec bc pc (.aload_n k) 1 pc') (hl : Ls[k.val]? = some (.val v)) (hv : v.isRef = true) (g : Go p e below s Q kC kS T (mkF m pc' Ls (v :: S))) : Go p e below s Q kC kS T (mkF m pc Ls S) :=
  Go.step (fun _ k => XS.aloadN X.here C.1 rfl (hb C.2.2.1 hd.1) hl hv k) (by rw [hd.2] at g; exact g)
theorem waload (C : Cur p l e s m meth c Z bc ml own nm rt) (X : Stand p l e R s m args below meth c T locs cells slots) {k : Nat} {v : Value} (hd : Dec bc pc (.aload k) 2 pc') (hl : Ls[k]? = some (.val v)) (hv : v.isRef = true) (g : Go p e below s Q kC kS T (mkF m pc' Ls (v :: S))) : Go p e below s Q kC kS T (mkF m pc Ls S) :=
  Go.step (fun _ k => XS.aload X.here C.1 rfl (hb C.2.2.1 hd.1) hl hv k) (by rw [hd.2] at g; exact g)
theorem wastoreN (C : Cur p l e s m meth c Z bc ml own nm rt) (X : Stand p l e R s m args below meth c T locs cells slots) {k : Fin 4} {v : Value} (hd : Dec bc pc (.astore_n k) 1 pc') (l' : Array Slot) (hv : v.isRef = true) (hl : storeLocals Ls k.val v = some l') (g : Go p e below s Q kC kS T (mkF m pc' l' S)) : Go p e below s Q kC kS T (mkF m pc Ls (v :: S)) :=
  Go.step (fun _ k => XS.astoreN X.here C.1 rfl (hb C.2.2.1 hd.1) rfl hv hl k) (by rw [hd.2] at g; exact g)
theorem wastore (C : Cur p l e s m meth c Z bc ml own nm rt) (X : Stand p l e R s m args below meth c T locs cells slots) {k : Nat} {v : Value} (hd : Dec bc pc (.astore k) 2 pc') (l' : Array Slot) (hv : v.isRef = true) (hl : storeLocals Ls k v = some l') (g : Go p e below s Q kC kS T (mkF m pc' l' S)) : Go p e below s Q kC kS T (mkF m pc Ls (v :: S)) :=
  Go.step (fun _ k => XS.astore X.here C.1 rfl (hb C.2.2.1 hd.1) rfl hv hl k) (by rw [hd.2] at g; exact g)
theorem wiconst (C : Cur p l e s m meth c Z bc ml own nm rt) (X : Stand p l e R s m args below meth c T locs cells slots) {i : Int} (hd : Dec bc pc (.iconst i) 1 pc') (z : Int32) (hz : Int32.ofInt i = z) (g : Go p e below s Q kC kS T (mkF m pc' Ls (.int z :: S))) : Go p e below s Q kC kS T (mkF m pc Ls S) :=
  Go.step (fun _ k => XS.iconst X.here C.1 rfl (hb C.2.2.1 hd.1) (by rw [hz]; exact k)) (by rw [hd.2] at g; exact g)
theorem wbipush (C : Cur p l e s m meth c Z bc ml own nm rt) (X : Stand p l e R s m args below meth c T locs cells slots) {i : Int} (hd : Dec bc pc (.bipush i) 2 pc') (z : Int32) (hz : (Int8.ofInt i).toInt32 = z) (g : Go p e below s Q kC kS T (mkF m pc' Ls (.int z :: S))) : Go p e below s Q kC kS T (mkF m pc Ls S) :=
  Go.step (fun _ k => XS.bipush X.here C.1 rfl (hb C.2.2.1 hd.1) (by rw [hz]; exact k)) (by rw [hd.2] at g; exact g)
theorem wsipush (C : Cur p l e s m meth c Z bc ml own nm rt) (X : Stand p l e R s m args below meth c T locs cells slots) {i : Int} (hd : Dec bc pc (.sipush i) 3 pc') (z : Int32) (hz : (Int16.ofInt i).toInt32 = z) (g : Go p e below s Q kC kS T (mkF m pc' Ls (.int z :: S))) : Go p e below s Q kC kS T (mkF m pc Ls S) :=
  Go.step (fun _ k => XS.sipush X.here C.1 rfl (hb C.2.2.1 hd.1) (by rw [hz]; exact k)) (by rw [hd.2] at g; exact g)
theorem wlconst0 (C : Cur p l e s m meth c Z bc ml own nm rt) (X : Stand p l e R s m args below meth c T locs cells slots) (hd : Dec bc pc (.lconst 0) 1 pc') (g : Go p e below s Q kC kS T (mkF m pc' Ls (.long 0 :: S))) : Go p e below s Q kC kS T (mkF m pc Ls S) :=
  Go.step (fun _ k => XS.lconst X.here C.1 rfl (hb C.2.2.1 hd.1) k) (by rw [hd.2] at g; exact g)
theorem wlconst1 (C : Cur p l e s m meth c Z bc ml own nm rt) (X : Stand p l e R s m args below meth c T locs cells slots) (hd : Dec bc pc (.lconst 1) 1 pc') (g : Go p e below s Q kC kS T (mkF m pc' Ls (.long 1 :: S))) : Go p e below s Q kC kS T (mkF m pc Ls S) :=
  Go.step (fun _ k => XS.lconst X.here C.1 rfl (hb C.2.2.1 hd.1) k) (by rw [hd.2] at g; exact g)
theorem wdconst0 (C : Cur p l e s m meth c Z bc ml own nm rt) (X : Stand p l e R s m args below meth c T locs cells slots) (hd : Dec bc pc (.dconst 0) 1 pc') (g : Go p e below s Q kC kS T (mkF m pc' Ls (.double FP.dconst0 :: S))) : Go p e below s Q kC kS T (mkF m pc Ls S) :=
  Go.step (fun _ k => XS.dconst0 X.here C.1 rfl (hb C.2.2.1 hd.1) rfl k) (by rw [hd.2] at g; exact g)
theorem wdconst1 (C : Cur p l e s m meth c Z bc ml own nm rt) (X : Stand p l e R s m args below meth c T locs cells slots) (hd : Dec bc pc (.dconst 1) 1 pc') (g : Go p e below s Q kC kS T (mkF m pc' Ls (.double FP.dconst1 :: S))) : Go p e below s Q kC kS T (mkF m pc Ls S) :=
  Go.step (fun _ k => XS.dconst1 X.here C.1 rfl (hb C.2.2.1 hd.1) rfl k) (by rw [hd.2] at g; exact g)
theorem wnull (C : Cur p l e s m meth c Z bc ml own nm rt) (X : Stand p l e R s m args below meth c T locs cells slots) (hd : Dec bc pc (.aconst_null) 1 pc') (g : Go p e below s Q kC kS T (mkF m pc' Ls (.null :: S))) : Go p e below s Q kC kS T (mkF m pc Ls S) :=
  Go.step (fun _ k => XS.aconstNull X.here C.1 rfl (hb C.2.2.1 hd.1) k) (by rw [hd.2] at g; exact g)
theorem wiadd (C : Cur p l e s m meth c Z bc ml own nm rt) (X : Stand p l e R s m args below meth c T locs cells slots) {x y : Int32} (hd : Dec bc pc (.iadd) 1 pc') (g : Go p e below s Q kC kS T (mkF m pc' Ls (.int (x + y) :: S))) : Go p e below s Q kC kS T (mkF m pc Ls (.int y :: .int x :: S)) :=
  Go.step (fun _ k => XS.iadd X.here C.1 rfl (hb C.2.2.1 hd.1) rfl k) (by rw [hd.2] at g; exact g)
theorem wisub (C : Cur p l e s m meth c Z bc ml own nm rt) (X : Stand p l e R s m args below meth c T locs cells slots) {x y : Int32} (hd : Dec bc pc (.isub) 1 pc') (g : Go p e below s Q kC kS T (mkF m pc' Ls (.int (x - y) :: S))) : Go p e below s Q kC kS T (mkF m pc Ls (.int y :: .int x :: S)) :=
  Go.step (fun _ k => XS.isub X.here C.1 rfl (hb C.2.2.1 hd.1) rfl k) (by rw [hd.2] at g; exact g)
theorem wimul (C : Cur p l e s m meth c Z bc ml own nm rt) (X : Stand p l e R s m args below meth c T locs cells slots) {x y : Int32} (hd : Dec bc pc (.imul) 1 pc') (g : Go p e below s Q kC kS T (mkF m pc' Ls (.int (x * y) :: S))) : Go p e below s Q kC kS T (mkF m pc Ls (.int y :: .int x :: S)) :=
  Go.step (fun _ k => XS.imul X.here C.1 rfl (hb C.2.2.1 hd.1) rfl k) (by rw [hd.2] at g; exact g)
theorem wiand (C : Cur p l e s m meth c Z bc ml own nm rt) (X : Stand p l e R s m args below meth c T locs cells slots) {x y : Int32} (hd : Dec bc pc (.iand) 1 pc') (g : Go p e below s Q kC kS T (mkF m pc' Ls (.int (x &&& y) :: S))) : Go p e below s Q kC kS T (mkF m pc Ls (.int y :: .int x :: S)) :=
  Go.step (fun _ k => XS.iand X.here C.1 rfl (hb C.2.2.1 hd.1) rfl k) (by rw [hd.2] at g; exact g)
theorem wior (C : Cur p l e s m meth c Z bc ml own nm rt) (X : Stand p l e R s m args below meth c T locs cells slots) {x y : Int32} (hd : Dec bc pc (.ior) 1 pc') (g : Go p e below s Q kC kS T (mkF m pc' Ls (.int (x ||| y) :: S))) : Go p e below s Q kC kS T (mkF m pc Ls (.int y :: .int x :: S)) :=
  Go.step (fun _ k => XS.ior X.here C.1 rfl (hb C.2.2.1 hd.1) rfl k) (by rw [hd.2] at g; exact g)
theorem wixor (C : Cur p l e s m meth c Z bc ml own nm rt) (X : Stand p l e R s m args below meth c T locs cells slots) {x y : Int32} (hd : Dec bc pc (.ixor) 1 pc') (g : Go p e below s Q kC kS T (mkF m pc' Ls (.int (x ^^^ y) :: S))) : Go p e below s Q kC kS T (mkF m pc Ls (.int y :: .int x :: S)) :=
  Go.step (fun _ k => XS.ixor X.here C.1 rfl (hb C.2.2.1 hd.1) rfl k) (by rw [hd.2] at g; exact g)
theorem wishl (C : Cur p l e s m meth c Z bc ml own nm rt) (X : Stand p l e R s m args below meth c T locs cells slots) {x y : Int32} (hd : Dec bc pc (.ishl) 1 pc') (g : Go p e below s Q kC kS T (mkF m pc' Ls (.int (x <<< (y &&& 31)) :: S))) : Go p e below s Q kC kS T (mkF m pc Ls (.int y :: .int x :: S)) :=
  Go.step (fun _ k => XS.ishl X.here C.1 rfl (hb C.2.2.1 hd.1) rfl k) (by rw [hd.2] at g; exact g)
theorem wishr (C : Cur p l e s m meth c Z bc ml own nm rt) (X : Stand p l e R s m args below meth c T locs cells slots) {x y : Int32} (hd : Dec bc pc (.ishr) 1 pc') (g : Go p e below s Q kC kS T (mkF m pc' Ls (.int (x >>> (y &&& 31)) :: S))) : Go p e below s Q kC kS T (mkF m pc Ls (.int y :: .int x :: S)) :=
  Go.step (fun _ k => XS.ishr X.here C.1 rfl (hb C.2.2.1 hd.1) rfl k) (by rw [hd.2] at g; exact g)
theorem wiushr (C : Cur p l e s m meth c Z bc ml own nm rt) (X : Stand p l e R s m args below meth c T locs cells slots) {x y : Int32} (hd : Dec bc pc (.iushr) 1 pc') (g : Go p e below s Q kC kS T (mkF m pc' Ls (.int ((x.toUInt32 >>> (y &&& 31).toUInt32).toInt32) :: S))) : Go p e below s Q kC kS T (mkF m pc Ls (.int y :: .int x :: S)) :=
  Go.step (fun _ k => XS.iushr X.here C.1 rfl (hb C.2.2.1 hd.1) rfl k) (by rw [hd.2] at g; exact g)
theorem wladd (C : Cur p l e s m meth c Z bc ml own nm rt) (X : Stand p l e R s m args below meth c T locs cells slots) {x y : Int64} (hd : Dec bc pc (.ladd) 1 pc') (g : Go p e below s Q kC kS T (mkF m pc' Ls (.long (x + y) :: S))) : Go p e below s Q kC kS T (mkF m pc Ls (.long y :: .long x :: S)) :=
  Go.step (fun _ k => XS.ladd X.here C.1 rfl (hb C.2.2.1 hd.1) rfl k) (by rw [hd.2] at g; exact g)
theorem wlsub (C : Cur p l e s m meth c Z bc ml own nm rt) (X : Stand p l e R s m args below meth c T locs cells slots) {x y : Int64} (hd : Dec bc pc (.lsub) 1 pc') (g : Go p e below s Q kC kS T (mkF m pc' Ls (.long (x - y) :: S))) : Go p e below s Q kC kS T (mkF m pc Ls (.long y :: .long x :: S)) :=
  Go.step (fun _ k => XS.lsub X.here C.1 rfl (hb C.2.2.1 hd.1) rfl k) (by rw [hd.2] at g; exact g)
theorem wlmul (C : Cur p l e s m meth c Z bc ml own nm rt) (X : Stand p l e R s m args below meth c T locs cells slots) {x y : Int64} (hd : Dec bc pc (.lmul) 1 pc') (g : Go p e below s Q kC kS T (mkF m pc' Ls (.long (x * y) :: S))) : Go p e below s Q kC kS T (mkF m pc Ls (.long y :: .long x :: S)) :=
  Go.step (fun _ k => XS.lmul X.here C.1 rfl (hb C.2.2.1 hd.1) rfl k) (by rw [hd.2] at g; exact g)
theorem wland (C : Cur p l e s m meth c Z bc ml own nm rt) (X : Stand p l e R s m args below meth c T locs cells slots) {x y : Int64} (hd : Dec bc pc (.land) 1 pc') (g : Go p e below s Q kC kS T (mkF m pc' Ls (.long (x &&& y) :: S))) : Go p e below s Q kC kS T (mkF m pc Ls (.long y :: .long x :: S)) :=
  Go.step (fun _ k => XS.land X.here C.1 rfl (hb C.2.2.1 hd.1) rfl k) (by rw [hd.2] at g; exact g)
theorem wlor (C : Cur p l e s m meth c Z bc ml own nm rt) (X : Stand p l e R s m args below meth c T locs cells slots) {x y : Int64} (hd : Dec bc pc (.lor) 1 pc') (g : Go p e below s Q kC kS T (mkF m pc' Ls (.long (x ||| y) :: S))) : Go p e below s Q kC kS T (mkF m pc Ls (.long y :: .long x :: S)) :=
  Go.step (fun _ k => XS.lor X.here C.1 rfl (hb C.2.2.1 hd.1) rfl k) (by rw [hd.2] at g; exact g)
theorem wlxor (C : Cur p l e s m meth c Z bc ml own nm rt) (X : Stand p l e R s m args below meth c T locs cells slots) {x y : Int64} (hd : Dec bc pc (.lxor) 1 pc') (g : Go p e below s Q kC kS T (mkF m pc' Ls (.long (x ^^^ y) :: S))) : Go p e below s Q kC kS T (mkF m pc Ls (.long y :: .long x :: S)) :=
  Go.step (fun _ k => XS.lxor X.here C.1 rfl (hb C.2.2.1 hd.1) rfl k) (by rw [hd.2] at g; exact g)
theorem wlshl (C : Cur p l e s m meth c Z bc ml own nm rt) (X : Stand p l e R s m args below meth c T locs cells slots) {x : Int64} {y : Int32} (hd : Dec bc pc (.lshl) 1 pc') (g : Go p e below s Q kC kS T (mkF m pc' Ls (.long (x <<< (y &&& 0x3f).toInt64) :: S))) : Go p e below s Q kC kS T (mkF m pc Ls (.int y :: .long x :: S)) :=
  Go.step (fun _ k => XS.lshl X.here C.1 rfl (hb C.2.2.1 hd.1) rfl k) (by rw [hd.2] at g; exact g)
theorem wlshr (C : Cur p l e s m meth c Z bc ml own nm rt) (X : Stand p l e R s m args below meth c T locs cells slots) {x : Int64} {y : Int32} (hd : Dec bc pc (.lshr) 1 pc') (g : Go p e below s Q kC kS T (mkF m pc' Ls (.long (x >>> (y &&& 0x3f).toInt64) :: S))) : Go p e below s Q kC kS T (mkF m pc Ls (.int y :: .long x :: S)) :=
  Go.step (fun _ k => XS.lshr X.here C.1 rfl (hb C.2.2.1 hd.1) rfl k) (by rw [hd.2] at g; exact g)
theorem wlushr (C : Cur p l e s m meth c Z bc ml own nm rt) (X : Stand p l e R s m args below meth c T locs cells slots) {x : Int64} {y : Int32} (hd : Dec bc pc (.lushr) 1 pc') (g : Go p e below s Q kC kS T (mkF m pc' Ls (.long ((x.toUInt64 >>> (y &&& 0x3f).toInt64.toUInt64).toInt64) :: S))) : Go p e below s Q kC kS T (mkF m pc Ls (.int y :: .long x :: S)) :=
  Go.step (fun _ k => XS.lushr X.here C.1 rfl (hb C.2.2.1 hd.1) rfl k) (by rw [hd.2] at g; exact g)
theorem widiv (C : Cur p l e s m meth c Z bc ml own nm rt) (X : Stand p l e R s m args below meth c T locs cells slots) {x y : Int32} (hd : Dec bc pc (.idiv) 1 pc') (hy : y ≠ 0) (g : Go p e below s Q kC kS T (mkF m pc' Ls (.int (x / y) :: S))) : Go p e below s Q kC kS T (mkF m pc Ls (.int y :: .int x :: S)) :=
  Go.step (fun _ k => XS.idiv X.here C.1 rfl (hb C.2.2.1 hd.1) rfl hy k) (by rw [hd.2] at g; exact g)
theorem wirem (C : Cur p l e s m meth c Z bc ml own nm rt) (X : Stand p l e R s m args below meth c T locs cells slots) {x y : Int32} (hd : Dec bc pc (.irem) 1 pc') (hy : y ≠ 0) (g : Go p e below s Q kC kS T (mkF m pc' Ls (.int (x % y) :: S))) : Go p e below s Q kC kS T (mkF m pc Ls (.int y :: .int x :: S)) :=
  Go.step (fun _ k => iremM X C.1 rfl (hb C.2.2.1 hd.1) rfl hy k) (by rw [hd.2] at g; exact g)
theorem wldiv (C : Cur p l e s m meth c Z bc ml own nm rt) (X : Stand p l e R s m args below meth c T locs cells slots) {x y : Int64} (hd : Dec bc pc (.ldiv) 1 pc') (hy : y ≠ 0) (g : Go p e below s Q kC kS T (mkF m pc' Ls (.long (x / y) :: S))) : Go p e below s Q kC kS T (mkF m pc Ls (.long y :: .long x :: S)) :=
  Go.step (fun _ k => XS.ldiv X.here C.1 rfl (hb C.2.2.1 hd.1) rfl hy k) (by rw [hd.2] at g; exact g)
theorem wineg (C : Cur p l e s m meth c Z bc ml own nm rt) (X : Stand p l e R s m args below meth c T locs cells slots) {x : Int32} (hd : Dec bc pc (.ineg) 1 pc') (g : Go p e below s Q kC kS T (mkF m pc' Ls (.int (-x) :: S))) : Go p e below s Q kC kS T (mkF m pc Ls (.int x :: S)) :=
  Go.step (fun _ k => XS.ineg X.here C.1 rfl (hb C.2.2.1 hd.1) rfl k) (by rw [hd.2] at g; exact g)
theorem wi2l (C : Cur p l e s m meth c Z bc ml own nm rt) (X : Stand p l e R s m args below meth c T locs cells slots) {x : Int32} (hd : Dec bc pc (.i2l) 1 pc') (g : Go p e below s Q kC kS T (mkF m pc' Ls (.long (x.toInt64) :: S))) : Go p e below s Q kC kS T (mkF m pc Ls (.int x :: S)) :=
  Go.step (fun _ k => XS.i2l X.here C.1 rfl (hb C.2.2.1 hd.1) rfl k) (by rw [hd.2] at g; exact g)
theorem wl2i (C : Cur p l e s m meth c Z bc ml own nm rt) (X : Stand p l e R s m args below meth c T locs cells slots) {x : Int64} (hd : Dec bc pc (.l2i) 1 pc') (g : Go p e below s Q kC kS T (mkF m pc' Ls (.int (x.toInt32) :: S))) : Go p e below s Q kC kS T (mkF m pc Ls (.long x :: S)) :=
  Go.step (fun _ k => XS.l2i X.here C.1 rfl (hb C.2.2.1 hd.1) rfl k) (by rw [hd.2] at g; exact g)
theorem wi2b (C : Cur p l e s m meth c Z bc ml own nm rt) (X : Stand p l e R s m args below meth c T locs cells slots) {x : Int32} (hd : Dec bc pc (.i2b) 1 pc') (g : Go p e below s Q kC kS T (mkF m pc' Ls (.int (x.toInt8.toInt32) :: S))) : Go p e below s Q kC kS T (mkF m pc Ls (.int x :: S)) :=
  Go.step (fun _ k => XS.i2b X.here C.1 rfl (hb C.2.2.1 hd.1) rfl k) (by rw [hd.2] at g; exact g)
theorem wi2s (C : Cur p l e s m meth c Z bc ml own nm rt) (X : Stand p l e R s m args below meth c T locs cells slots) {x : Int32} (hd : Dec bc pc (.i2s) 1 pc') (g : Go p e below s Q kC kS T (mkF m pc' Ls (.int (x.toInt16.toInt32) :: S))) : Go p e below s Q kC kS T (mkF m pc Ls (.int x :: S)) :=
  Go.step (fun _ k => XS.i2s X.here C.1 rfl (hb C.2.2.1 hd.1) rfl k) (by rw [hd.2] at g; exact g)
theorem wi2c (C : Cur p l e s m meth c Z bc ml own nm rt) (X : Stand p l e R s m args below meth c T locs cells slots) {x : Int32} (hd : Dec bc pc (.i2c) 1 pc') (g : Go p e below s Q kC kS T (mkF m pc' Ls (.int (x.toUInt32.toUInt16.toUInt32.toInt32) :: S))) : Go p e below s Q kC kS T (mkF m pc Ls (.int x :: S)) :=
  Go.step (fun _ k => XS.i2c X.here C.1 rfl (hb C.2.2.1 hd.1) rfl k) (by rw [hd.2] at g; exact g)
theorem wlneg (C : Cur p l e s m meth c Z bc ml own nm rt) (X : Stand p l e R s m args below meth c T locs cells slots) {x : Int64} (hd : Dec bc pc (.lneg) 1 pc') (g : Go p e below s Q kC kS T (mkF m pc' Ls (.long (-x) :: S))) : Go p e below s Q kC kS T (mkF m pc Ls (.long x :: S)) :=
  Go.step (fun _ k => XS.lneg X.here C.1 rfl (hb C.2.2.1 hd.1) rfl k) (by rw [hd.2] at g; exact g)
theorem wi2d (C : Cur p l e s m meth c Z bc ml own nm rt) (X : Stand p l e R s m args below meth c T locs cells slots) {x : Int32} (hd : Dec bc pc (.i2d) 1 pc') (g : Go p e below s Q kC kS T (mkF m pc' Ls (.double (FP.i2d x) :: S))) : Go p e below s Q kC kS T (mkF m pc Ls (.int x :: S)) :=
  Go.step (fun _ k => XS.i2dS X.here C.1 rfl (hb C.2.2.1 hd.1) rfl rfl k) (by rw [hd.2] at g; exact g)
theorem wl2d (C : Cur p l e s m meth c Z bc ml own nm rt) (X : Stand p l e R s m args below meth c T locs cells slots) {x : Int64} (hd : Dec bc pc (.l2d) 1 pc') (g : Go p e below s Q kC kS T (mkF m pc' Ls (.double (FP.l2d x) :: S))) : Go p e below s Q kC kS T (mkF m pc Ls (.long x :: S)) :=
  Go.step (fun _ k => XS.l2dS X.here C.1 rfl (hb C.2.2.1 hd.1) rfl rfl k) (by rw [hd.2] at g; exact g)
theorem wd2i (C : Cur p l e s m meth c Z bc ml own nm rt) (X : Stand p l e R s m args below meth c T locs cells slots) {x : UInt64} (hd : Dec bc pc (.d2i) 1 pc') (g : Go p e below s Q kC kS T (mkF m pc' Ls (.int (FP.d2i x) :: S))) : Go p e below s Q kC kS T (mkF m pc Ls (.double x :: S)) :=
  Go.step (fun _ k => XS.d2iS X.here C.1 rfl (hb C.2.2.1 hd.1) rfl rfl k) (by rw [hd.2] at g; exact g)
theorem wd2l (C : Cur p l e s m meth c Z bc ml own nm rt) (X : Stand p l e R s m args below meth c T locs cells slots) {x : UInt64} (hd : Dec bc pc (.d2l) 1 pc') (g : Go p e below s Q kC kS T (mkF m pc' Ls (.long (FP.d2l x) :: S))) : Go p e below s Q kC kS T (mkF m pc Ls (.double x :: S)) :=
  Go.step (fun _ k => XS.d2lS X.here C.1 rfl (hb C.2.2.1 hd.1) rfl rfl k) (by rw [hd.2] at g; exact g)
theorem wdneg (C : Cur p l e s m meth c Z bc ml own nm rt) (X : Stand p l e R s m args below meth c T locs cells slots) {x : UInt64} (hd : Dec bc pc (.dneg) 1 pc') (g : Go p e below s Q kC kS T (mkF m pc' Ls (.double (FP.dneg x) :: S))) : Go p e below s Q kC kS T (mkF m pc Ls (.double x :: S)) :=
  Go.step (fun _ k => XS.dnegS X.here C.1 rfl (hb C.2.2.1 hd.1) rfl rfl k) (by rw [hd.2] at g; exact g)
theorem wdadd (C : Cur p l e s m meth c Z bc ml own nm rt) (X : Stand p l e R s m args below meth c T locs cells slots) {x y : UInt64} (hd : Dec bc pc (.dadd) 1 pc') {v : UInt64} (hv : FP.dadd x y = v) (hn : Jvm.Free.Fl.NoNaN64 v) (g : Go p e below s Q kC kS T (mkF m pc' Ls (.double v :: S))) : Go p e below s Q kC kS T (mkF m pc Ls (.double y :: .double x :: S)) :=
  Go.step (fun _ k => XS.daddS X.here C.1 rfl (hb C.2.2.1 hd.1) rfl (by rw [hv]; exact hn) hv k) (by rw [hd.2] at g; exact g)
theorem wdsub (C : Cur p l e s m meth c Z bc ml own nm rt) (X : Stand p l e R s m args below meth c T locs cells slots) {x y : UInt64} (hd : Dec bc pc (.dsub) 1 pc') {v : UInt64} (hv : FP.dsub x y = v) (hn : Jvm.Free.Fl.NoNaN64 v) (g : Go p e below s Q kC kS T (mkF m pc' Ls (.double v :: S))) : Go p e below s Q kC kS T (mkF m pc Ls (.double y :: .double x :: S)) :=
  Go.step (fun _ k => XS.dsubS X.here C.1 rfl (hb C.2.2.1 hd.1) rfl (by rw [hv]; exact hn) hv k) (by rw [hd.2] at g; exact g)
theorem wdmul (C : Cur p l e s m meth c Z bc ml own nm rt) (X : Stand p l e R s m args below meth c T locs cells slots) {x y : UInt64} (hd : Dec bc pc (.dmul) 1 pc') {v : UInt64} (hv : FP.dmul x y = v) (hn : Jvm.Free.Fl.NoNaN64 v) (g : Go p e below s Q kC kS T (mkF m pc' Ls (.double v :: S))) : Go p e below s Q kC kS T (mkF m pc Ls (.double y :: .double x :: S)) :=
  Go.step (fun _ k => XS.dmulS X.here C.1 rfl (hb C.2.2.1 hd.1) rfl (by rw [hv]; exact hn) hv k) (by rw [hd.2] at g; exact g)
theorem wddiv (C : Cur p l e s m meth c Z bc ml own nm rt) (X : Stand p l e R s m args below meth c T locs cells slots) {x y : UInt64} (hd : Dec bc pc (.ddiv) 1 pc') {v : UInt64} (hv : FP.ddiv x y = v) (hn : Jvm.Free.Fl.NoNaN64 v) (g : Go p e below s Q kC kS T (mkF m pc' Ls (.double v :: S))) : Go p e below s Q kC kS T (mkF m pc Ls (.double y :: .double x :: S)) :=
  Go.step (fun _ k => XS.ddivS X.here C.1 rfl (hb C.2.2.1 hd.1) rfl (by rw [hv]; exact hn) hv k) (by rw [hd.2] at g; exact g)
theorem wdcmp (C : Cur p l e s m meth c Z bc ml own nm rt) (X : Stand p l e R s m args below meth c T locs cells slots) {o : CmpOp} {x y : UInt64} (hd : Dec bc pc (.dcmp o) 1 pc') {v : Int32} (hv : cmpValue (FP.dcmp x y) o = v) (g : Go p e below s Q kC kS T (mkF m pc' Ls (.int v :: S))) : Go p e below s Q kC kS T (mkF m pc Ls (.double y :: .double x :: S)) :=
  Go.step (fun _ k => XS.dcmpS X.here C.1 rfl (hb C.2.2.1 hd.1) rfl hv k) (by rw [hd.2] at g; exact g)
theorem wlcmp (C : Cur p l e s m meth c Z bc ml own nm rt) (X : Stand p l e R s m args below meth c T locs cells slots) {x y : Int64} (hd : Dec bc pc (.lcmp) 1 pc') (g : Go p e below s Q kC kS T (mkF m pc' Ls (.int (lcmpW x y) :: S))) : Go p e below s Q kC kS T (mkF m pc Ls (.long y :: .long x :: S)) :=
  Go.step (fun _ k => XS.lcmp X.here C.1 rfl (hb C.2.2.1 hd.1) rfl k) (by rw [hd.2] at g; exact g)
theorem wdup (C : Cur p l e s m meth c Z bc ml own nm rt) (X : Stand p l e R s m args below meth c T locs cells slots) {v : Value} (hd : Dec bc pc (.dup) 1 pc') (hc : v.category = 1) (g : Go p e below s Q kC kS T (mkF m pc' Ls (v :: v :: S))) : Go p e below s Q kC kS T (mkF m pc Ls (v :: S)) :=
  Go.step (fun _ k => XS.dup X.here C.1 rfl (hb C.2.2.1 hd.1) rfl hc k) (by rw [hd.2] at g; exact g)
theorem wdupX1 (C : Cur p l e s m meth c Z bc ml own nm rt) (X : Stand p l e R s m args below meth c T locs cells slots) {v u : Value} (hd : Dec bc pc (.dup_x1) 1 pc') (hc : v.category = 1) (hc' : u.category = 1) (g : Go p e below s Q kC kS T (mkF m pc' Ls (v :: u :: v :: S))) : Go p e below s Q kC kS T (mkF m pc Ls (v :: u :: S)) :=
  Go.step (fun _ k => XS.dupX1 X.here C.1 rfl (hb C.2.2.1 hd.1) rfl hc hc' k) (by rw [hd.2] at g; exact g)
theorem wdup2 (C : Cur p l e s m meth c Z bc ml own nm rt) (X : Stand p l e R s m args below meth c T locs cells slots) {v u : Value} (hd : Dec bc pc (.dup2) 1 pc') (hc : v.category = 1) (hc' : u.category = 1) (g : Go p e below s Q kC kS T (mkF m pc' Ls (v :: u :: v :: u :: S))) : Go p e below s Q kC kS T (mkF m pc Ls (v :: u :: S)) :=
  Go.step (fun _ k => Jvm.Free.XT.dup2 X.here C.1 rfl (hb C.2.2.1 hd.1) rfl hc hc' k) (by rw [hd.2] at g; exact g)
theorem wpop (C : Cur p l e s m meth c Z bc ml own nm rt) (X : Stand p l e R s m args below meth c T locs cells slots) {v : Value} (hd : Dec bc pc (.pop) 1 pc') (hc : v.category = 1) (g : Go p e below s Q kC kS T (mkF m pc' Ls S)) : Go p e below s Q kC kS T (mkF m pc Ls (v :: S)) :=
  Go.step (fun _ k => XS.pop X.here C.1 rfl (hb C.2.2.1 hd.1) rfl hc k) (by rw [hd.2] at g; exact g)
theorem wiinc (C : Cur p l e s m meth c Z bc ml own nm rt) (X : Stand p l e R s m args below meth c T locs cells slots) {k : Nat} {cst : Int} {x : Int32} (hd : Dec bc pc (.iinc k cst) 3 pc') (z : Int32) (hz : x + Int32.ofInt cst = z) (hl : Ls[k]? = some (.val (.int x))) (l' : Array Slot) (hl' : storeLocals Ls k (.int z) = some l') (g : Go p e below s Q kC kS T (mkF m pc' l' S)) : Go p e below s Q kC kS T (mkF m pc Ls S) :=
  Go.step (fun _ k => XS.iinc X.here C.1 rfl (hb C.2.2.1 hd.1) hl (by rw [hz]; exact hl') k) (by rw [hd.2] at g; exact g)
theorem wgoto (C : Cur p l e s m meth c Z bc ml own nm rt) (X : Stand p l e R s m args below meth c T locs cells slots) {o : Int} {tgt nxt : Nat} (hd : DecJ bc pc (.goto o) o tgt nxt) (g : Go p e below s Q kC kS T (mkF m tgt Ls S)) : Go p e below s Q kC kS T (mkF m pc Ls S) :=
  Go.step (fun _ k => XS.goto X.here C.1 rfl (pc0 := pc) (pc' := tgt) rfl (hb C.2.2.1 hd.1) hd.2.1 hd.2.2.1 k) g
theorem wicmp_lt (C : Cur p l e s m meth c Z bc ml own nm rt) (X : Stand p l e R s m args below meth c T locs cells slots) {x y : Int32} {o : Int} {tgt nxt : Nat} (hd : DecJ bc pc (.if_icmp .lt o) o tgt nxt) (hp : x < y → Go p e below s Q kC kS T (mkF m tgt Ls S)) (hn : ¬ x < y → Go p e below s Q kC kS T (mkF m nxt Ls S)) : Go p e below s Q kC kS T (mkF m pc Ls (.int y :: .int x :: S)) := by
  by_cases h : x < y
  · have g := hp h
    exact Go.step (fun _ k => XS.icmpYes X.here C.1 rfl (pc0 := pc) (pc' := tgt) rfl (hb C.2.2.1 hd.1) rfl (tlt h).1 hd.2.1 hd.2.2.1 k) g
  · have g := hn h
    rw [hd.2.2.2] at g; exact Go.step (fun _ k => XS.icmpNo X.here C.1 rfl (hb C.2.2.1 hd.1) rfl (flt h).1 k) g
theorem wif_lt (C : Cur p l e s m meth c Z bc ml own nm rt) (X : Stand p l e R s m args below meth c T locs cells slots) {x : Int32} {o : Int} {tgt nxt : Nat} (hd : DecJ bc pc (.ifCond .lt o) o tgt nxt) (hp : x < (0 : Int32) → Go p e below s Q kC kS T (mkF m tgt Ls S)) (hn : ¬ x < (0 : Int32) → Go p e below s Q kC kS T (mkF m nxt Ls S)) : Go p e below s Q kC kS T (mkF m pc Ls (.int x :: S)) := by
  by_cases h : x < (0 : Int32)
  · have g := hp h
    exact Go.step (fun _ k => XS.ifYes X.here C.1 rfl (pc0 := pc) (pc' := tgt) rfl (hb C.2.2.1 hd.1) rfl ((if0 _ _).trans (tlt h).1) hd.2.1 hd.2.2.1 k) g
  · have g := hn h
    rw [hd.2.2.2] at g; exact Go.step (fun _ k => XS.ifNo X.here C.1 rfl (hb C.2.2.1 hd.1) rfl ((if0 _ _).trans (flt h).1) k) g
theorem wicmp_ge (C : Cur p l e s m meth c Z bc ml own nm rt) (X : Stand p l e R s m args below meth c T locs cells slots) {x y : Int32} {o : Int} {tgt nxt : Nat} (hd : DecJ bc pc (.if_icmp .ge o) o tgt nxt) (hp : x < y → Go p e below s Q kC kS T (mkF m nxt Ls S)) (hn : ¬ x < y → Go p e below s Q kC kS T (mkF m tgt Ls S)) : Go p e below s Q kC kS T (mkF m pc Ls (.int y :: .int x :: S)) := by
  by_cases h : x < y
  · have g := hp h
    rw [hd.2.2.2] at g; exact Go.step (fun _ k => XS.icmpNo X.here C.1 rfl (hb C.2.2.1 hd.1) rfl (tlt h).2.1 k) g
  · have g := hn h
    exact Go.step (fun _ k => XS.icmpYes X.here C.1 rfl (pc0 := pc) (pc' := tgt) rfl (hb C.2.2.1 hd.1) rfl (flt h).2.1 hd.2.1 hd.2.2.1 k) g
theorem wif_ge (C : Cur p l e s m meth c Z bc ml own nm rt) (X : Stand p l e R s m args below meth c T locs cells slots) {x : Int32} {o : Int} {tgt nxt : Nat} (hd : DecJ bc pc (.ifCond .ge o) o tgt nxt) (hp : x < (0 : Int32) → Go p e below s Q kC kS T (mkF m nxt Ls S)) (hn : ¬ x < (0 : Int32) → Go p e below s Q kC kS T (mkF m tgt Ls S)) : Go p e below s Q kC kS T (mkF m pc Ls (.int x :: S)) := by
  by_cases h : x < (0 : Int32)
  · have g := hp h
    rw [hd.2.2.2] at g; exact Go.step (fun _ k => XS.ifNo X.here C.1 rfl (hb C.2.2.1 hd.1) rfl ((if0 _ _).trans (tlt h).2.1) k) g
  · have g := hn h
    exact Go.step (fun _ k => XS.ifYes X.here C.1 rfl (pc0 := pc) (pc' := tgt) rfl (hb C.2.2.1 hd.1) rfl ((if0 _ _).trans (flt h).2.1) hd.2.1 hd.2.2.1 k) g
theorem wicmp_gt (C : Cur p l e s m meth c Z bc ml own nm rt) (X : Stand p l e R s m args below meth c T locs cells slots) {x y : Int32} {o : Int} {tgt nxt : Nat} (hd : DecJ bc pc (.if_icmp .gt o) o tgt nxt) (hp : y < x → Go p e below s Q kC kS T (mkF m tgt Ls S)) (hn : ¬ y < x → Go p e below s Q kC kS T (mkF m nxt Ls S)) : Go p e below s Q kC kS T (mkF m pc Ls (.int y :: .int x :: S)) := by
  by_cases h : y < x
  · have g := hp h
    exact Go.step (fun _ k => XS.icmpYes X.here C.1 rfl (pc0 := pc) (pc' := tgt) rfl (hb C.2.2.1 hd.1) rfl (tlt h).2.2.1 hd.2.1 hd.2.2.1 k) g
  · have g := hn h
    rw [hd.2.2.2] at g; exact Go.step (fun _ k => XS.icmpNo X.here C.1 rfl (hb C.2.2.1 hd.1) rfl (flt h).2.2.1 k) g
theorem wif_gt (C : Cur p l e s m meth c Z bc ml own nm rt) (X : Stand p l e R s m args below meth c T locs cells slots) {x : Int32} {o : Int} {tgt nxt : Nat} (hd : DecJ bc pc (.ifCond .gt o) o tgt nxt) (hp : (0 : Int32) < x → Go p e below s Q kC kS T (mkF m tgt Ls S)) (hn : ¬ (0 : Int32) < x → Go p e below s Q kC kS T (mkF m nxt Ls S)) : Go p e below s Q kC kS T (mkF m pc Ls (.int x :: S)) := by
  by_cases h : (0 : Int32) < x
  · have g := hp h
    exact Go.step (fun _ k => XS.ifYes X.here C.1 rfl (pc0 := pc) (pc' := tgt) rfl (hb C.2.2.1 hd.1) rfl ((if0 _ _).trans (tlt h).2.2.1) hd.2.1 hd.2.2.1 k) g
  · have g := hn h
    rw [hd.2.2.2] at g; exact Go.step (fun _ k => XS.ifNo X.here C.1 rfl (hb C.2.2.1 hd.1) rfl ((if0 _ _).trans (flt h).2.2.1) k) g
theorem wicmp_le (C : Cur p l e s m meth c Z bc ml own nm rt) (X : Stand p l e R s m args below meth c T locs cells slots) {x y : Int32} {o : Int} {tgt nxt : Nat} (hd : DecJ bc pc (.if_icmp .le o) o tgt nxt) (hp : y < x → Go p e below s Q kC kS T (mkF m nxt Ls S)) (hn : ¬ y < x → Go p e below s Q kC kS T (mkF m tgt Ls S)) : Go p e below s Q kC kS T (mkF m pc Ls (.int y :: .int x :: S)) := by
  by_cases h : y < x
  · have g := hp h
    rw [hd.2.2.2] at g; exact Go.step (fun _ k => XS.icmpNo X.here C.1 rfl (hb C.2.2.1 hd.1) rfl (tlt h).2.2.2 k) g
  · have g := hn h
    exact Go.step (fun _ k => XS.icmpYes X.here C.1 rfl (pc0 := pc) (pc' := tgt) rfl (hb C.2.2.1 hd.1) rfl (flt h).2.2.2 hd.2.1 hd.2.2.1 k) g
theorem wif_le (C : Cur p l e s m meth c Z bc ml own nm rt) (X : Stand p l e R s m args below meth c T locs cells slots) {x : Int32} {o : Int} {tgt nxt : Nat} (hd : DecJ bc pc (.ifCond .le o) o tgt nxt) (hp : (0 : Int32) < x → Go p e below s Q kC kS T (mkF m nxt Ls S)) (hn : ¬ (0 : Int32) < x → Go p e below s Q kC kS T (mkF m tgt Ls S)) : Go p e below s Q kC kS T (mkF m pc Ls (.int x :: S)) := by
  by_cases h : (0 : Int32) < x
  · have g := hp h
    rw [hd.2.2.2] at g; exact Go.step (fun _ k => XS.ifNo X.here C.1 rfl (hb C.2.2.1 hd.1) rfl ((if0 _ _).trans (tlt h).2.2.2) k) g
  · have g := hn h
    exact Go.step (fun _ k => XS.ifYes X.here C.1 rfl (pc0 := pc) (pc' := tgt) rfl (hb C.2.2.1 hd.1) rfl ((if0 _ _).trans (flt h).2.2.2) hd.2.1 hd.2.2.1 k) g
theorem wicmp_eq (C : Cur p l e s m meth c Z bc ml own nm rt) (X : Stand p l e R s m args below meth c T locs cells slots) {x y : Int32} {o : Int} {tgt nxt : Nat} (hd : DecJ bc pc (.if_icmp .eq o) o tgt nxt) (hp : x = y → Go p e below s Q kC kS T (mkF m tgt Ls S)) (hn : ¬ x = y → Go p e below s Q kC kS T (mkF m nxt Ls S)) : Go p e below s Q kC kS T (mkF m pc Ls (.int y :: .int x :: S)) := by
  by_cases h : x = y
  · have g := hp h
    exact Go.step (fun _ k => XS.icmpYes X.here C.1 rfl (pc0 := pc) (pc' := tgt) rfl (hb C.2.2.1 hd.1) rfl (teq h).1 hd.2.1 hd.2.2.1 k) g
  · have g := hn h
    rw [hd.2.2.2] at g; exact Go.step (fun _ k => XS.icmpNo X.here C.1 rfl (hb C.2.2.1 hd.1) rfl (feq h).1 k) g
theorem wif_eq (C : Cur p l e s m meth c Z bc ml own nm rt) (X : Stand p l e R s m args below meth c T locs cells slots) {x : Int32} {o : Int} {tgt nxt : Nat} (hd : DecJ bc pc (.ifCond .eq o) o tgt nxt) (hp : x = (0 : Int32) → Go p e below s Q kC kS T (mkF m tgt Ls S)) (hn : ¬ x = (0 : Int32) → Go p e below s Q kC kS T (mkF m nxt Ls S)) : Go p e below s Q kC kS T (mkF m pc Ls (.int x :: S)) := by
  by_cases h : x = (0 : Int32)
  · have g := hp h
    exact Go.step (fun _ k => XS.ifYes X.here C.1 rfl (pc0 := pc) (pc' := tgt) rfl (hb C.2.2.1 hd.1) rfl ((if0 _ _).trans (teq h).1) hd.2.1 hd.2.2.1 k) g
  · have g := hn h
    rw [hd.2.2.2] at g; exact Go.step (fun _ k => XS.ifNo X.here C.1 rfl (hb C.2.2.1 hd.1) rfl ((if0 _ _).trans (feq h).1) k) g
theorem wicmp_ne (C : Cur p l e s m meth c Z bc ml own nm rt) (X : Stand p l e R s m args below meth c T locs cells slots) {x y : Int32} {o : Int} {tgt nxt : Nat} (hd : DecJ bc pc (.if_icmp .ne o) o tgt nxt) (hp : x = y → Go p e below s Q kC kS T (mkF m nxt Ls S)) (hn : ¬ x = y → Go p e below s Q kC kS T (mkF m tgt Ls S)) : Go p e below s Q kC kS T (mkF m pc Ls (.int y :: .int x :: S)) := by
  by_cases h : x = y
  · have g := hp h
    rw [hd.2.2.2] at g; exact Go.step (fun _ k => XS.icmpNo X.here C.1 rfl (hb C.2.2.1 hd.1) rfl (teq h).2 k) g
  · have g := hn h
    exact Go.step (fun _ k => XS.icmpYes X.here C.1 rfl (pc0 := pc) (pc' := tgt) rfl (hb C.2.2.1 hd.1) rfl (feq h).2 hd.2.1 hd.2.2.1 k) g
theorem wif_ne (C : Cur p l e s m meth c Z bc ml own nm rt) (X : Stand p l e R s m args below meth c T locs cells slots) {x : Int32} {o : Int} {tgt nxt : Nat} (hd : DecJ bc pc (.ifCond .ne o) o tgt nxt) (hp : x = (0 : Int32) → Go p e below s Q kC kS T (mkF m nxt Ls S)) (hn : ¬ x = (0 : Int32) → Go p e below s Q kC kS T (mkF m tgt Ls S)) : Go p e below s Q kC kS T (mkF m pc Ls (.int x :: S)) := by
  by_cases h : x = (0 : Int32)
  · have g := hp h
    rw [hd.2.2.2] at g; exact Go.step (fun _ k => XS.ifNo X.here C.1 rfl (hb C.2.2.1 hd.1) rfl ((if0 _ _).trans (teq h).2) k) g
  · have g := hn h
    exact Go.step (fun _ k => XS.ifYes X.here C.1 rfl (pc0 := pc) (pc' := tgt) rfl (hb C.2.2.1 hd.1) rfl ((if0 _ _).trans (feq h).2) hd.2.1 hd.2.2.1 k) g
theorem wacmp_eq (C : Cur p l e s m meth c Z bc ml own nm rt) (X : Stand p l e R s m args below meth c T locs cells slots) {x y : Value} (h1 : x.isRef = true) (h2 : y.isRef = true) {o : Int} {tgt nxt : Nat} (hd : DecJ bc pc (.if_acmp .eq o) o tgt nxt) (hp : x = y → Go p e below s Q kC kS T (mkF m tgt Ls S)) (hn : ¬ x = y → Go p e below s Q kC kS T (mkF m nxt Ls S)) : Go p e below s Q kC kS T (mkF m pc Ls (y :: x :: S)) := by
  by_cases h : x = y
  · have g := hp h
    exact Go.step (fun _ k => Jvm.RoadKit.acmp X C.1 rfl h1 h2 (pc0 := pc) (pc' := tgt) (same := true) rfl (hb C.2.2.1 hd.1) rfl (decide_eq_true h) hd.2.1 (by rw [hd.2.2.1]; rfl) k) g
  · have g := hn h
    exact Go.step (fun _ k => Jvm.RoadKit.acmp X C.1 rfl h1 h2 (pc0 := pc) (pc' := nxt) (same := false) rfl (hb C.2.2.1 hd.1) rfl (decide_eq_false h) hd.2.1 (by rw [hd.2.2.2]; rfl) k) g
theorem wacmp_ne (C : Cur p l e s m meth c Z bc ml own nm rt) (X : Stand p l e R s m args below meth c T locs cells slots) {x y : Value} (h1 : x.isRef = true) (h2 : y.isRef = true) {o : Int} {tgt nxt : Nat} (hd : DecJ bc pc (.if_acmp .ne o) o tgt nxt) (hp : x = y → Go p e below s Q kC kS T (mkF m nxt Ls S)) (hn : ¬ x = y → Go p e below s Q kC kS T (mkF m tgt Ls S)) : Go p e below s Q kC kS T (mkF m pc Ls (y :: x :: S)) := by
  by_cases h : x = y
  · have g := hp h
    exact Go.step (fun _ k => Jvm.RoadKit.acmp X C.1 rfl h1 h2 (pc0 := pc) (pc' := nxt) (same := true) rfl (hb C.2.2.1 hd.1) rfl (decide_eq_true h) hd.2.1 (by rw [hd.2.2.2]; rfl) k) g
  · have g := hn h
    exact Go.step (fun _ k => Jvm.RoadKit.acmp X C.1 rfl h1 h2 (pc0 := pc) (pc' := tgt) (same := false) rfl (hb C.2.2.1 hd.1) rfl (decide_eq_false h) hd.2.1 (by rw [hd.2.2.1]; rfl) k) g
theorem wifnullY (C : Cur p l e s m meth c Z bc ml own nm rt) (X : Stand p l e R s m args below meth c T locs cells slots) {b : Addr} {o : Int} {tgt nxt : Nat} (hd : DecJ bc pc (.ifnull o) o tgt nxt) (g : Go p e below s Q kC kS T (mkF m tgt Ls S)) : Go p e below s Q kC kS T (mkF m pc Ls (.null :: S)) :=
  Go.step (fun _ k => XS.ifnullYes X.here C.1 rfl (pc0 := pc) (pc' := tgt) rfl (hb C.2.2.1 hd.1) rfl hd.2.1 hd.2.2.1 k) g
theorem wifnullN (C : Cur p l e s m meth c Z bc ml own nm rt) (X : Stand p l e R s m args below meth c T locs cells slots) {b : Addr} {o : Int} {tgt nxt : Nat} (hd : DecJ bc pc (.ifnull o) o tgt nxt) (g : Go p e below s Q kC kS T (mkF m nxt Ls S)) : Go p e below s Q kC kS T (mkF m pc Ls (.ref b :: S)) := by
  rw [hd.2.2.2] at g
  exact Go.step (fun _ k => XS.ifnullNo X.here C.1 rfl (hb C.2.2.1 hd.1) rfl k) g
theorem wifnonnullY (C : Cur p l e s m meth c Z bc ml own nm rt) (X : Stand p l e R s m args below meth c T locs cells slots) {b : Addr} {o : Int} {tgt nxt : Nat} (hd : DecJ bc pc (.ifnonnull o) o tgt nxt) (g : Go p e below s Q kC kS T (mkF m tgt Ls S)) : Go p e below s Q kC kS T (mkF m pc Ls (.ref b :: S)) :=
  Go.step (fun _ k => XS.ifnonnullYes X.here C.1 rfl (pc0 := pc) (pc' := tgt) rfl (hb C.2.2.1 hd.1) rfl hd.2.1 hd.2.2.1 k) g
theorem wifnonnullN (C : Cur p l e s m meth c Z bc ml own nm rt) (X : Stand p l e R s m args below meth c T locs cells slots) {b : Addr} {o : Int} {tgt nxt : Nat} (hd : DecJ bc pc (.ifnonnull o) o tgt nxt) (g : Go p e below s Q kC kS T (mkF m nxt Ls S)) : Go p e below s Q kC kS T (mkF m pc Ls (.null :: S)) := by
  rw [hd.2.2.2] at g
  exact Go.step (fun _ k => XS.ifnonnullNo X.here C.1 rfl (hb C.2.2.1 hd.1) rfl k) g
theorem wret (C : Cur p l e s m meth c Z bc ml own nm rt) (X : Stand p l e R s m args below meth c T locs cells slots) (hd : Dec bc pc .return_ 1 pc') (hrt : rt = none) (hk : cells ≤ kC) (hn : slots ≤ kS) (q : Q none T.heap locs) : Go p e below s Q kC kS T (mkF m pc Ls []) := by
  subst hrt
  obtain ⟨fs, hr, hrun, hended, hW, hsame⟩ := X.leave (v := none) (fun _ => rfl) C.2.2.2.2.2.2.1
  exact ⟨_, _, X.returnOut C.1 C.2.2.2.2.2.1 (hb C.2.2.1 hd.1) hr, hrun, hended, none, _, rfl, q, ⟨_, rfl⟩, hW, hsame.mono hk hn⟩
theorem wretV (C : Cur p l e s m meth c Z bc ml own nm rt) (X : Stand p l e R s m args below meth c T locs cells slots) {w : Value} {t : FieldType} {i : Instr} (hd : Dec bc pc i 1 pc') (hrt : rt = some t) (hnw : narrow t w = w)
    (hi : (i = .ireturn ∧ (t = .int ∨ t = .boolean ∨ t = .byte ∨ t = .char ∨ t = .short) ∧ ∃ z, w = .int z) ∨ (i = .lreturn ∧ t = .long ∧ ∃ z, w = .long z) ∨ (i = .dreturn ∧ t = .double ∧ ∃ z, w = .double z) ∨ (i = .freturn ∧ t = .float ∧ ∃ z, w = .float z) ∨ (i = .areturn ∧ t.isReference = true ∧ w.isRef = true))
    (hk : cells ≤ kC) (hn : slots ≤ kS) (q : Q (some w) T.heap locs) : Go p e below s Q kC kS T (mkF m pc Ls (w :: S)) := by
  subst hrt
  obtain ⟨fs, hr, hrun, hended, hW, hsame⟩ := X.leave (v := some w) (fun h => by rw [C.2.2.2.2.2.1] at h; cases h) C.2.2.2.2.2.2.1
  exact ⟨_, _, retOut X C.1 C.2.2.2.2.2.1 hnw hi (hb C.2.2.1 hd.1) hr, hrun, hended, some w, _, rfl, q, ⟨_, rfl⟩, hW, hsame.mono hk hn⟩
theorem wiret (C : Cur p l e s m meth c Z bc ml own nm rt) (X : Stand p l e R s m args below meth c T locs cells slots) {z : Int32} (hd : Dec bc pc .ireturn 1 pc') (hrt : rt = some .int) (hk : cells ≤ kC) (hn : slots ≤ kS) (q : Q (some (.int z)) T.heap locs) : Go p e below s Q kC kS T (mkF m pc Ls (.int z :: S)) :=
  wretV C X hd hrt rfl (Or.inl ⟨rfl, Or.inl rfl, z, rfl⟩) hk hn q
theorem wiretN (C : Cur p l e s m meth c Z bc ml own nm rt) (X : Stand p l e R s m args below meth c T locs cells slots) {z : Int32} {t : FieldType} (ht : t = .boolean ∨ t = .byte ∨ t = .char ∨ t = .short) (hd : Dec bc pc .ireturn 1 pc') (hrt : rt = some t) (z' : Int32) (hz : nar t z = z') (hk : cells ≤ kC) (hn : slots ≤ kS) (q : Q (some (.int z')) T.heap locs) : Go p e below s Q kC kS T (mkF m pc Ls (.int z :: S)) := by
  subst hrt hz
  obtain ⟨fs, hr, hrun, hended, hW, hsame⟩ := X.leave (v := some (.int (nar t z))) (fun h => by rw [C.2.2.2.2.2.1] at h; cases h) C.2.2.2.2.2.2.1
  exact ⟨_, _, retN X C.1 (t := t) C.2.2.2.2.2.1 ht (hb C.2.2.1 hd.1) hr, hrun, hended, some _, _, rfl, q, ⟨_, rfl⟩, hW, hsame.mono hk hn⟩
theorem wlret (C : Cur p l e s m meth c Z bc ml own nm rt) (X : Stand p l e R s m args below meth c T locs cells slots) {z : Int64} (hd : Dec bc pc .lreturn 1 pc') (hrt : rt = some .long) (hk : cells ≤ kC) (hn : slots ≤ kS) (q : Q (some (.long z)) T.heap locs) : Go p e below s Q kC kS T (mkF m pc Ls (.long z :: S)) :=
  wretV C X hd hrt rfl (Or.inr (Or.inl ⟨rfl, rfl, z, rfl⟩)) hk hn q
theorem wdret (C : Cur p l e s m meth c Z bc ml own nm rt) (X : Stand p l e R s m args below meth c T locs cells slots) {z : UInt64} (hd : Dec bc pc .dreturn 1 pc') (hrt : rt = some .double) (hk : cells ≤ kC) (hn : slots ≤ kS) (q : Q (some (.double z)) T.heap locs) : Go p e below s Q kC kS T (mkF m pc Ls (.double z :: S)) :=
  wretV C X hd hrt rfl (Or.inr (Or.inr (Or.inl ⟨rfl, rfl, z, rfl⟩))) hk hn q
theorem waret (C : Cur p l e s m meth c Z bc ml own nm rt) (X : Stand p l e R s m args below meth c T locs cells slots) {w : Value} {t : FieldType} (hd : Dec bc pc .areturn 1 pc') (hrt : rt = some t) (ht : t.isReference = true) (hw : w.isRef = true) (hnw : narrow t w = w) (hk : cells ≤ kC) (hn : slots ≤ kS) (q : Q (some w) T.heap locs) : Go p e below s Q kC kS T (mkF m pc Ls (w :: S)) :=
  wretV C X hd hrt hnw (Or.inr (Or.inr (Or.inr (Or.inr ⟨rfl, ht, hw⟩)))) hk hn q
theorem wget (C : Cur p l e s m meth c Z bc ml own nm rt) (X : Stand p l e R s m args below meth c T locs cells slots) {R0 O n d host : String} {index : Nat} (w : (Jvm.Cond.fieldLink own index R0 n d).before a0 Z = true ∨ (Jvm.Cond.fieldLinkNest own index R0 n d host).before a0 Z = true) (via : Via Z R0 O n d) (eT : T.heap = h) {a : Addr} {v : Value} (F : Fld Z h a O n d v) (hd : Dec bc pc (.getfield index) 3 pc')
    (K : ∀ T' : State, Stand p l e R s m args below meth c T' locs cells slots → T'.heap = h → Go p e below s Q kC kS T' (mkF m pc' Ls (v :: S))) : Go p e below s Q kC kS T (mkF m pc Ls (.ref a :: S)) := by
  obtain ⟨T', X', e', st⟩ := getF X C.1 C.2.1 C.2.2.2.2.1 w via eT F (g := mkF m pc Ls (.ref a :: S)) rfl rfl (hb C.2.2.1 hd.1)
  have k := K T' X' e'
  rw [hd.2] at k
  exact Go.step st k
theorem wgets (C : Cur p l e s m meth c Z bc ml own nm rt) (X : Stand p l e R s m args below meth c T locs cells slots) {R0 O n d host : String} {index : Nat} (w : (Jvm.Cond.fieldLink own index R0 n d).before a0 Z = true ∨ (Jvm.Cond.fieldLinkNest own index R0 n d host).before a0 Z = true) (via : Via Z R0 O n d) (eT : T.heap = h) {v : Value} (F : Sta Z h O n d v) (hd : Dec bc pc (.getstatic index) 3 pc')
    (K : ∀ T' : State, Stand p l e R s m args below meth c T' locs cells slots → T'.heap = h → Go p e below s Q kC kS T' (mkF m pc' Ls (v :: S))) : Go p e below s Q kC kS T (mkF m pc Ls S) := by
  obtain ⟨T', X', e', st⟩ := getS2 X C.1 C.2.1 C.2.2.2.2.1 w via eT F (g := mkF m pc Ls S) rfl (hb C.2.2.1 hd.1)
  have k := K T' X' e'
  rw [hd.2] at k
  exact Go.step st k
theorem wput (C : Cur p l e s m meth c Z bc ml own nm rt) (X : Stand p l e R s m args below meth c T locs cells slots) {R0 O n d host C0 : String} {index kk : Nat} {ty : FieldType} (w : (Jvm.Cond.fieldLink own index R0 n d).before a0 Z = true ∨ (Jvm.Cond.fieldLinkNest own index R0 n d host).before a0 Z = true) (via : Via Z R0 O n d) (eT : T.heap = h) {a : Addr} {v old : Value} (F : Fld Z h a O n d old) (E : Exa Z h a C0)
    (L : (Jvm.Cond.lays C0 O n d).before a0 Z = true ∨ ((Jvm.Cond.laysFinal C0 O n d).before a0 Z = true ∧ own = O ∧ nm = "<init>")) (wi : (Jvm.Cond.instantiable C0 kk).before a0 Z = true) (hty : parseFieldDescriptor d = some ty) (hn : narrow ty v = v) (hf : fits ty v = true) (hd : Dec bc pc (.putfield index) 3 pc')
    (K : ∀ (T' : State) (h' : Heap), Stand p l e R s m args below meth c T' (locs ++ [⟨a, Jvm.RoadKit.slotOf Z O n d⟩]) cells slots → T'.heap = h' → Wr h h' a (Jvm.RoadKit.slotOf Z O n d) v → Go p e below s Q kC kS T' (mkF m pc' Ls S)) : Go p e below s Q kC kS T (mkF m pc Ls (v :: .ref a :: S)) := by
  obtain ⟨T', h', X', e', W, st⟩ := putF X C.1 C.2.1 C.2.2.2.2.1 w via eT F E (L.imp id fun q => ⟨q.1, q.2.1, C.2.2.2.2.2.2.2.trans q.2.2⟩) wi hty hn hf (g := mkF m pc Ls (v :: .ref a :: S)) rfl rfl (hb C.2.2.1 hd.1)
  have k := K T' h' X' e' W
  rw [hd.2] at k
  exact Go.step st k
theorem wputN (C : Cur p l e s m meth c Z bc ml own nm rt) (X : Stand p l e R s m args below meth c T locs cells slots) {R0 O n d C0 : String} {index kk : Nat} {ty : FieldType} (w : (Jvm.Cond.fieldLink own index R0 n d).before a0 Z = true) (via : Via Z R0 O n d) (eT : T.heap = h) {a : Addr} {v old : Value} (F : Fld Z h a O n d old) (E : Exa Z h a C0)
    (L : (Jvm.Cond.lays C0 O n d).before a0 Z = true ∨ ((Jvm.Cond.laysFinal C0 O n d).before a0 Z = true ∧ own = O ∧ nm = "<init>")) (wi : (Jvm.Cond.instantiable C0 kk).before a0 Z = true) (hty : parseFieldDescriptor d = some ty) (v' : Value) (hn : narrow ty v = v') (hf : fits ty v' = true) (hd : Dec bc pc (.putfield index) 3 pc')
    (K : ∀ (T' : State) (h' : Heap), Stand p l e R s m args below meth c T' (locs ++ [⟨a, Jvm.RoadKit.slotOf Z O n d⟩]) cells slots → T'.heap = h' → Wr h h' a (Jvm.RoadKit.slotOf Z O n d) v' → Go p e below s Q kC kS T' (mkF m pc' Ls S)) : Go p e below s Q kC kS T (mkF m pc Ls (v :: .ref a :: S)) := by
  obtain ⟨T', h', X', e', W, st⟩ := putFN X C.1 C.2.1 C.2.2.2.2.1 w via eT F E (L.imp id fun q => ⟨q.1, q.2.1, C.2.2.2.2.2.2.2.trans q.2.2⟩) wi hty hn hf (g := mkF m pc Ls (v :: .ref a :: S)) rfl rfl (hb C.2.2.1 hd.1)
  have k := K T' h' X' e' W
  rw [hd.2] at k
  exact Go.step st k
theorem wnew (C : Cur p l e s m meth c Z bc ml own nm rt) (X : Stand p l e R s m args below meth c T locs cells slots) {C0 : String} {index n : Nat} (w : (Jvm.Cond.classLink own index C0).before a0 Z = true) (wi : (Jvm.Cond.instantiable C0 n).before a0 Z = true) (wz : (Jvm.Cond.initialized C0).before a0 Z = true) (eT : T.heap = h) (hd : Dec bc pc (.new index) 3 pc') (hc : cells + 1 ≤ R.cells) (hl : slots + n ≤ R.slots)
    (K : ∀ (T' : State) (h' : Heap) (a : Addr), a = h.size → Stand p l e R s m args below meth c T' locs (cells + 1) (slots + n) → T'.heap = h' → Ext h h' → Exa Z h' a C0 → (∀ {O nm d : String} {ty : FieldType}, Laid Z a0 C0 O nm d → parseFieldDescriptor d = some ty → Fld Z h' a O nm d (defaultValue ty)) → Go p e below s Q kC kS T' (mkF m pc' Ls (.ref a :: S))) : Go p e below s Q kC kS T (mkF m pc Ls S) := by
  obtain ⟨T', h', X', e', E, A, D, -, st⟩ := newO X C.1 C.2.1 C.2.2.2.2.1 w wi wz eT (g := mkF m pc Ls S) rfl (hb C.2.2.1 hd.1) hc hl
  have k := K T' h' _ rfl X' e' E A D
  rw [hd.2] at k
  exact Go.step st k
theorem wnewarr (C : Cur p l e s m meth c Z bc ml own nm rt) (X : Stand p l e R s m args below meth c T locs cells slots) {aty : ArrayType} (w : (Jvm.Cond.arrayClass (newarray.typeOf aty)).before a0 Z = true) (eT : T.heap = h) {n : Int32} (hd : Dec bc pc (.newarray aty) 2 pc') (hn : ¬ n < 0) {cap : Nat} (hcap : n.toNatClampNeg ≤ cap) (hb' : cap * 8 ≤ 536870912) (hc : cells + 1 ≤ R.cells) (hl : slots + cap ≤ R.slots)
    (K : ∀ (T' : State) (h' : Heap) (a : Addr) (k : ClassId), a = h.size → Stand p l e R s m args below meth c T' locs (cells + 1) (slots + cap) → T'.heap = h' → Ext h h' → Arv Z h' a k (newarray.typeOf aty) n [] (defaultValue (newarray.typeOf aty)) → Go p e below s Q kC kS T' (mkF m pc' Ls (.ref a :: S))) : Go p e below s Q kC kS T (mkF m pc Ls (.int n :: S)) := by
  obtain ⟨T', h', kA, X', e', E, A, st⟩ := newP X C.1 C.2.1 w eT (g := mkF m pc Ls (.int n :: S)) rfl (hb C.2.2.1 hd.1) rfl hn hcap hb' hc hl
  have k := K T' h' _ kA rfl X' e' E (Arv.new A hn)
  rw [hd.2] at k
  exact Go.step st k
theorem wiaload (C : Cur p l e s m meth c Z bc ml own nm rt) (X : Stand p l e R s m args below meth c T locs cells slots) (eT : T.heap = h) {a : Addr} {ka : ClassId} {n j : Int32} {vs : List Value} {dv : Value} (V : Arv Z h a ka .int n vs dv) (hd : Dec bc pc .iaload 1 pc') (hj : ¬ j < 0 ∧ j < n) {i : Nat} (hi : j.toNatClampNeg = i) {v : Int32} (hv : vs.getD i dv = .int v) (g : Go p e below s Q kC kS T (mkF m pc' Ls (.int v :: S))) : Go p e below s Q kC kS T (mkF m pc Ls (.int j :: .ref a :: S)) := by
  obtain ⟨cl, A, -, hS, -, hH, -⟩ := V
  have hin := inb_of hS hj
  rw [hd.2] at g
  exact Go.step (fun t k => X.iaload C.1 (by rw [eT]; exact A.1) (State.isArrayOf_alike C.2.1.alike A.2.1) A.2.2 hin (hH.at hin (by rw [hi]; exact hv)) (g := mkF m pc Ls (.int j :: .ref a :: S)) rfl rfl (hb C.2.2.1 hd.1) t k) g
theorem wlaload (C : Cur p l e s m meth c Z bc ml own nm rt) (X : Stand p l e R s m args below meth c T locs cells slots) (eT : T.heap = h) {a : Addr} {ka : ClassId} {n j : Int32} {vs : List Value} {dv : Value} (V : Arv Z h a ka .long n vs dv) (hd : Dec bc pc .laload 1 pc') (hj : ¬ j < 0 ∧ j < n) {i : Nat} (hi : j.toNatClampNeg = i) {v : Int64} (hv : vs.getD i dv = .long v) (g : Go p e below s Q kC kS T (mkF m pc' Ls (.long v :: S))) : Go p e below s Q kC kS T (mkF m pc Ls (.int j :: .ref a :: S)) := by
  obtain ⟨cl, A, -, hS, -, hH, -⟩ := V
  have hin := inb_of hS hj
  rw [hd.2] at g
  exact Go.step (fun t k => X.laload C.1 (by rw [eT]; exact A.1) (State.isArrayOf_alike C.2.1.alike A.2.1) A.2.2 hin (hH.at hin (by rw [hi]; exact hv)) (g := mkF m pc Ls (.int j :: .ref a :: S)) rfl rfl (hb C.2.2.1 hd.1) t k) g
theorem wdaload (C : Cur p l e s m meth c Z bc ml own nm rt) (X : Stand p l e R s m args below meth c T locs cells slots) (eT : T.heap = h) {a : Addr} {ka : ClassId} {n j : Int32} {vs : List Value} {dv : Value} (V : Arv Z h a ka .double n vs dv) (hd : Dec bc pc .daload 1 pc') (hj : ¬ j < 0 ∧ j < n) {i : Nat} (hi : j.toNatClampNeg = i) {v : UInt64} (hv : vs.getD i dv = .double v) (g : Go p e below s Q kC kS T (mkF m pc' Ls (.double v :: S))) : Go p e below s Q kC kS T (mkF m pc Ls (.int j :: .ref a :: S)) := by
  obtain ⟨cl, A, -, hS, -, hH, -⟩ := V
  have hin := inb_of hS hj
  rw [hd.2] at g
  exact Go.step (fun t k => X.daload C.1 (by rw [eT]; exact A.1) (State.isArrayOf_alike C.2.1.alike A.2.1) A.2.2 hin (hH.at hin (by rw [hi]; exact hv)) (g := mkF m pc Ls (.int j :: .ref a :: S)) rfl rfl (hb C.2.2.1 hd.1) t k) g
theorem wcaload (C : Cur p l e s m meth c Z bc ml own nm rt) (X : Stand p l e R s m args below meth c T locs cells slots) (eT : T.heap = h) {a : Addr} {ka : ClassId} {n j : Int32} {vs : List Value} {dv : Value} (V : Arv Z h a ka .char n vs dv) (hd : Dec bc pc .caload 1 pc') (hj : ¬ j < 0 ∧ j < n) {i : Nat} (hi : j.toNatClampNeg = i) {v : Int32} (hv : vs.getD i dv = .int v) (g : Go p e below s Q kC kS T (mkF m pc' Ls (.int v :: S))) : Go p e below s Q kC kS T (mkF m pc Ls (.int j :: .ref a :: S)) := by
  obtain ⟨cl, A, -, hS, -, hH, -⟩ := V
  have hin := inb_of hS hj
  rw [hd.2] at g
  exact Go.step (fun t k => X.caload C.1 (by rw [eT]; exact A.1) (State.isArrayOf_alike C.2.1.alike A.2.1) A.2.2 hin (hH.at hin (by rw [hi]; exact hv)) (g := mkF m pc Ls (.int j :: .ref a :: S)) rfl rfl (hb C.2.2.1 hd.1) t k) g
theorem wbaloadB (C : Cur p l e s m meth c Z bc ml own nm rt) (X : Stand p l e R s m args below meth c T locs cells slots) (eT : T.heap = h) {a : Addr} {ka : ClassId} {n j : Int32} {vs : List Value} {dv : Value} (V : Arv Z h a ka .byte n vs dv) (hd : Dec bc pc .baload 1 pc') (hj : ¬ j < 0 ∧ j < n) {i : Nat} (hi : j.toNatClampNeg = i) {v : Int32} (hv : vs.getD i dv = .int v) (g : Go p e below s Q kC kS T (mkF m pc' Ls (.int v :: S))) : Go p e below s Q kC kS T (mkF m pc Ls (.int j :: .ref a :: S)) := by
  obtain ⟨cl, A, -, hS, -, hH, -⟩ := V
  have hin := inb_of hS hj
  rw [hd.2] at g
  exact Go.step (fun t k => X.baloadBytes C.1 (by rw [eT]; exact A.1) (State.isArrayOf_alike C.2.1.alike A.2.1) A.2.2 hin (hH.at hin (by rw [hi]; exact hv)) (g := mkF m pc Ls (.int j :: .ref a :: S)) rfl rfl (hb C.2.2.1 hd.1) t k) g
theorem wbaloadZ (C : Cur p l e s m meth c Z bc ml own nm rt) (X : Stand p l e R s m args below meth c T locs cells slots) (eT : T.heap = h) {a : Addr} {ka : ClassId} {n j : Int32} {vs : List Value} {dv : Value} (V : Arv Z h a ka .boolean n vs dv) (hd : Dec bc pc .baload 1 pc') (hj : ¬ j < 0 ∧ j < n) {i : Nat} (hi : j.toNatClampNeg = i) {v : Int32} (hv : vs.getD i dv = .int v) (g : Go p e below s Q kC kS T (mkF m pc' Ls (.int v :: S))) : Go p e below s Q kC kS T (mkF m pc Ls (.int j :: .ref a :: S)) := by
  obtain ⟨cl, A, -, hS, -, hH, -⟩ := V
  have hin := inb_of hS hj
  rw [hd.2] at g
  exact Go.step (fun t k => X.baloadBooleans C.1 (by rw [eT]; exact A.1) (State.isArrayOf_alike C.2.1.alike A.2.1) A.2.2 hin (hH.at hin (by rw [hi]; exact hv)) (g := mkF m pc Ls (.int j :: .ref a :: S)) rfl rfl (hb C.2.2.1 hd.1) t k) g
theorem waaload (C : Cur p l e s m meth c Z bc ml own nm rt) (X : Stand p l e R s m args below meth c T locs cells slots) (eT : T.heap = h) {a : Addr} {ka : ClassId} {ty : FieldType} {n j : Int32} {vs : List Value} {dv : Value} (V : Arv Z h a ka ty n vs dv) (hty : ty.isReference = true) (hd : Dec bc pc .aaload 1 pc') (hj : ¬ j < 0 ∧ j < n) {i : Nat} (hi : j.toNatClampNeg = i) {v : Value} (hv : vs.getD i dv = v) (g : Go p e below s Q kC kS T (mkF m pc' Ls (v :: S))) : Go p e below s Q kC kS T (mkF m pc Ls (.int j :: .ref a :: S)) := by
  obtain ⟨cl, A, -, hS, -, hH, -⟩ := V
  have hin := inb_of hS hj
  rw [hd.2] at g
  exact Go.step (fun t k => X.aaload C.1 (by rw [eT]; exact A.1) (State.isArrayOf_alike C.2.1.alike A.2.1) hty A.2.2 hin (hH.at hin (by rw [hi]; exact hv)) (g := mkF m pc Ls (.int j :: .ref a :: S)) rfl rfl (hb C.2.2.1 hd.1) t k) g
theorem walen (C : Cur p l e s m meth c Z bc ml own nm rt) (X : Stand p l e R s m args below meth c T locs cells slots) (eT : T.heap = h) {a : Addr} {ka : ClassId} {ty : FieldType} {n : Int32} {vs : List Value} {dv : Value} (V : Arv Z h a ka ty n vs dv) (hd : Dec bc pc .arraylength 1 pc') (g : Go p e below s Q kC kS T (mkF m pc' Ls (.int n :: S))) : Go p e below s Q kC kS T (mkF m pc Ls (.ref a :: S)) := by
  obtain ⟨cl, A, -, hS, hN, -, -⟩ := V
  rw [hd.2] at g
  exact Go.step (fun t k => X.arraylength C.1 (by rw [eT]; exact A.1) (State.isArrayOf_alike C.2.1.alike A.2.1) (g := mkF m pc Ls (.ref a :: S)) rfl rfl (hb C.2.2.1 hd.1) t (by rw [len_of hS hN]; exact k)) g
theorem wiastore (C : Cur p l e s m meth c Z bc ml own nm rt) (X : Stand p l e R s m args below meth c T locs cells slots) (eT : T.heap = h) {a : Addr} {ka : ClassId} {n j : Int32} {x : Int32} {vs : List Value} {dv : Value} (V : Arv Z h a ka .int n vs dv) (hd : Dec bc pc .iastore 1 pc') (hj : ¬ j < 0 ∧ j < n) (i : Nat) (hi : j.toNatClampNeg = i) (hlt : i < vs.length) (vs' : List Value) (hs : vs.set i (.int x) = vs')
    (K : ∀ (T' : State) (h' : Heap) (sl : Nat) (w : Value), Stand p l e R s m args below meth c T' (locs ++ [⟨a, sl⟩]) cells slots → T'.heap = h' → Wr h h' a sl w → Arv Z h' a ka .int n vs' dv → Go p e below s Q kC kS T' (mkF m pc' Ls S)) : Go p e below s Q kC kS T (mkF m pc Ls (.int x :: .int j :: .ref a :: S)) := by
  obtain ⟨cl, A, hk, hS, hN, hH, hG⟩ := V
  have hin := inb_of hS hj
  obtain ⟨T', h', X', e', W, st⟩ := stI X C.1 C.2.1 eT A hin (g := mkF m pc Ls (.int x :: .int j :: .ref a :: S)) rfl rfl (hb C.2.2.1 hd.1)
  have V' := Arv.set A hk hS hN hH hG rfl W i hi hlt
  subst hs
  have k := K T' h' _ _ X' e' W V'
  rw [hd.2] at k
  exact Go.step st k
theorem wlastore (C : Cur p l e s m meth c Z bc ml own nm rt) (X : Stand p l e R s m args below meth c T locs cells slots) (eT : T.heap = h) {a : Addr} {ka : ClassId} {n j : Int32} {x : Int64} {vs : List Value} {dv : Value} (V : Arv Z h a ka .long n vs dv) (hd : Dec bc pc .lastore 1 pc') (hj : ¬ j < 0 ∧ j < n) (i : Nat) (hi : j.toNatClampNeg = i) (hlt : i < vs.length) (vs' : List Value) (hs : vs.set i (.long x) = vs')
    (K : ∀ (T' : State) (h' : Heap) (sl : Nat) (w : Value), Stand p l e R s m args below meth c T' (locs ++ [⟨a, sl⟩]) cells slots → T'.heap = h' → Wr h h' a sl w → Arv Z h' a ka .long n vs' dv → Go p e below s Q kC kS T' (mkF m pc' Ls S)) : Go p e below s Q kC kS T (mkF m pc Ls (.long x :: .int j :: .ref a :: S)) := by
  obtain ⟨cl, A, hk, hS, hN, hH, hG⟩ := V
  have hin := inb_of hS hj
  obtain ⟨T', h', X', e', W, st⟩ := stJ X C.1 C.2.1 eT A hin (g := mkF m pc Ls (.long x :: .int j :: .ref a :: S)) rfl rfl (hb C.2.2.1 hd.1)
  have V' := Arv.set A hk hS hN hH hG rfl W i hi hlt
  subst hs
  have k := K T' h' _ _ X' e' W V'
  rw [hd.2] at k
  exact Go.step st k
theorem wdastore (C : Cur p l e s m meth c Z bc ml own nm rt) (X : Stand p l e R s m args below meth c T locs cells slots) (eT : T.heap = h) {a : Addr} {ka : ClassId} {n j : Int32} {x : UInt64} {vs : List Value} {dv : Value} (V : Arv Z h a ka .double n vs dv) (hd : Dec bc pc .dastore 1 pc') (hj : ¬ j < 0 ∧ j < n) (i : Nat) (hi : j.toNatClampNeg = i) (hlt : i < vs.length) (vs' : List Value) (hs : vs.set i (.double x) = vs')
    (K : ∀ (T' : State) (h' : Heap) (sl : Nat) (w : Value), Stand p l e R s m args below meth c T' (locs ++ [⟨a, sl⟩]) cells slots → T'.heap = h' → Wr h h' a sl w → Arv Z h' a ka .double n vs' dv → Go p e below s Q kC kS T' (mkF m pc' Ls S)) : Go p e below s Q kC kS T (mkF m pc Ls (.double x :: .int j :: .ref a :: S)) := by
  obtain ⟨cl, A, hk, hS, hN, hH, hG⟩ := V
  have hin := inb_of hS hj
  obtain ⟨T', h', X', e', W, st⟩ := stD X C.1 C.2.1 eT A hin (g := mkF m pc Ls (.double x :: .int j :: .ref a :: S)) rfl rfl (hb C.2.2.1 hd.1)
  have V' := Arv.set A hk hS hN hH hG rfl W i hi hlt
  subst hs
  have k := K T' h' _ _ X' e' W V'
  rw [hd.2] at k
  exact Go.step st k
theorem wcastore (C : Cur p l e s m meth c Z bc ml own nm rt) (X : Stand p l e R s m args below meth c T locs cells slots) (eT : T.heap = h) {a : Addr} {ka : ClassId} {n j : Int32} {x : Int32} {vs : List Value} {dv : Value} (V : Arv Z h a ka .char n vs dv) (hd : Dec bc pc .castore 1 pc') (hj : ¬ j < 0 ∧ j < n) (i : Nat) (hi : j.toNatClampNeg = i) (hlt : i < vs.length) (vs' : List Value) (hs : vs.set i (.int (nar .char x)) = vs')
    (K : ∀ (T' : State) (h' : Heap) (sl : Nat) (w : Value), Stand p l e R s m args below meth c T' (locs ++ [⟨a, sl⟩]) cells slots → T'.heap = h' → Wr h h' a sl w → Arv Z h' a ka .char n vs' dv → Go p e below s Q kC kS T' (mkF m pc' Ls S)) : Go p e below s Q kC kS T (mkF m pc Ls (.int x :: .int j :: .ref a :: S)) := by
  obtain ⟨cl, A, hk, hS, hN, hH, hG⟩ := V
  have hin := inb_of hS hj
  obtain ⟨T', h', X', e', W, st⟩ := stC X C.1 C.2.1 eT A hin (g := mkF m pc Ls (.int x :: .int j :: .ref a :: S)) rfl rfl (hb C.2.2.1 hd.1)
  have V' := Arv.set A hk hS hN hH hG (fits_nar_char _) W i hi hlt
  subst hs
  have k := K T' h' _ _ X' e' W V'
  rw [hd.2] at k
  exact Go.step st k
theorem wbastoreB (C : Cur p l e s m meth c Z bc ml own nm rt) (X : Stand p l e R s m args below meth c T locs cells slots) (eT : T.heap = h) {a : Addr} {ka : ClassId} {n j : Int32} {x : Int32} {vs : List Value} {dv : Value} (V : Arv Z h a ka .byte n vs dv) (hd : Dec bc pc .bastore 1 pc') (hj : ¬ j < 0 ∧ j < n) (i : Nat) (hi : j.toNatClampNeg = i) (hlt : i < vs.length) (vs' : List Value) (hs : vs.set i (.int x.toInt8.toInt32) = vs')
    (K : ∀ (T' : State) (h' : Heap) (sl : Nat) (w : Value), Stand p l e R s m args below meth c T' (locs ++ [⟨a, sl⟩]) cells slots → T'.heap = h' → Wr h h' a sl w → Arv Z h' a ka .byte n vs' dv → Go p e below s Q kC kS T' (mkF m pc' Ls S)) : Go p e below s Q kC kS T (mkF m pc Ls (.int x :: .int j :: .ref a :: S)) := by
  obtain ⟨cl, A, hk, hS, hN, hH, hG⟩ := V
  have hin := inb_of hS hj
  obtain ⟨T', h', X', e', W, st⟩ := stB X C.1 C.2.1 eT A hin (g := mkF m pc Ls (.int x :: .int j :: .ref a :: S)) rfl rfl (hb C.2.2.1 hd.1)
  have V' := Arv.set A hk hS hN hH hG (fits_nar_byte _) W i hi hlt
  subst hs
  have k := K T' h' _ _ X' e' W V'
  rw [hd.2] at k
  exact Go.step st k
theorem wbastoreZ (C : Cur p l e s m meth c Z bc ml own nm rt) (X : Stand p l e R s m args below meth c T locs cells slots) (eT : T.heap = h) {a : Addr} {ka : ClassId} {n j : Int32} {x : Int32} {vs : List Value} {dv : Value} (V : Arv Z h a ka .boolean n vs dv) (hd : Dec bc pc .bastore 1 pc') (hj : ¬ j < 0 ∧ j < n) (i : Nat) (hi : j.toNatClampNeg = i) (hlt : i < vs.length) (vs' : List Value) (hs : vs.set i (.int (nar .boolean x)) = vs')
    (K : ∀ (T' : State) (h' : Heap) (sl : Nat) (w : Value), Stand p l e R s m args below meth c T' (locs ++ [⟨a, sl⟩]) cells slots → T'.heap = h' → Wr h h' a sl w → Arv Z h' a ka .boolean n vs' dv → Go p e below s Q kC kS T' (mkF m pc' Ls S)) : Go p e below s Q kC kS T (mkF m pc Ls (.int x :: .int j :: .ref a :: S)) := by
  obtain ⟨cl, A, hk, hS, hN, hH, hG⟩ := V
  have hin := inb_of hS hj
  obtain ⟨T', h', X', e', W, st⟩ := stZ X C.1 C.2.1 eT A hin (g := mkF m pc Ls (.int x :: .int j :: .ref a :: S)) rfl rfl (hb C.2.2.1 hd.1)
  have V' := Arv.set A hk hS hN hH hG (fits_nar_bool _) W i hi hlt
  subst hs
  have k := K T' h' _ _ X' e' W V'
  rw [hd.2] at k
  exact Go.step st k
theorem winitO (C : Cur p l e s m meth c Z bc ml own nm rt) (X : Stand p l e R s m args below meth c T locs cells slots) {index : Nat} (w1 : (Jvm.Cond.methodLink own index Lib.objectInit).before a0 Z = true) (w2 : (Jvm.Cond.instanceMethod Lib.objectInit).before a0 Z = true) (w3 : (Jvm.Cond.code Lib.objectInit ⟨#[0xb1]⟩ 1 none).before a0 Z = true) (eT : T.heap = h) {a : Addr} (hd : Dec bc pc (.invokespecial index) 3 pc') (hsz : Ls.size = ml) (hf : 1 ≤ R.frames) {W : Nat} (hW : (S.map fun v => v.category).sum ≤ W) (hl : W + 12 ≤ R.locals)
    (K : ∀ T' : State, Stand p l e R s m args below meth c T' locs cells slots → T'.heap = h → Go p e below s Q kC kS T' (mkF m pc' Ls S)) : Go p e below s Q kC kS T (mkF m pc Ls (.ref a :: S)) := by
  obtain ⟨T', X', e', st⟩ := initO X C.1 C.2.1 C.2.2.2.2.1 w1 w2 w3 eT (g := mkF m pc Ls (.ref a :: S)) rfl (hsz.trans C.2.2.2.1.symm) rfl (hb C.2.2.1 hd.1) hf (W := W) (by show 2 * 0 + _ ≤ _; simpa using hW) hl
  have k := K T' X' e'
  rw [hd.2] at k
  exact Go.step st k
theorem wspecial (C : Cur p l e s m meth c Z bc ml own nm rt) (X : Stand p l e R s m args below meth c T locs cells slots) {y : MethodName} {bytes : ByteArray} {maxL : Nat} {ret : Option FieldType} {rm : Room} {as' : Array Value} {Qc : Option Value → Heap → List Loc → Prop} {index : Nat} (hy1 : y.name = "<init>") (w1 : (Jvm.Cond.methodLink own index y).before a0 Z = true) (w2 : (Jvm.Cond.instanceMethod y).before a0 Z = true) (w3 : (Jvm.Cond.code y bytes maxL ret).before a0 Z = true) (w4 : (Jvm.Cond.initialized y.cls).before a0 Z = true) (hret : ret = none) (hy : y.cls ≠ "java/lang/invoke/MethodHandle" ∧ y.cls ≠ "java/lang/invoke/VarHandle")
    (hM : MetFree l y (head1 [Jvm.Cond.code y bytes maxL ret] rm) (fun a U => a = as' ∧ Z.Warmed39 U.vm ∧ U.heap = h) (fun _ _ _ _ _ => True) (fun _ U o U' => ∃ v L, o = .returned v ∧ Qc v U'.heap L ∧ FrameEnd U o U' L rm.cells rm.slots)) (eT : T.heap = h) (hd : Dec bc pc (.invokespecial index) 3 pc') {a : Addr} {argsL rest St : List Value} (has : as' = (.ref a :: argsL).toArray) (hst : St = argsL.reverse ++ .ref a :: rest) (hlen : ∀ sig, parseMethodDescriptor y.desc = some sig → argsL.length = sig.parameters.length) (hsz : Ls.size = ml) {W : Nat} (hW : (rest.map fun v => v.category).sum ≤ W) (hf : rm.frames + 1 ≤ R.frames) (hl : W + (maxL + 11) + rm.locals ≤ R.locals) (hc : cells + rm.cells ≤ R.cells) (hs : slots + rm.slots ≤ R.slots)
    (K : ∀ (v : Option Value) (T' : State) (L' : List Loc), Stand p l e R s m args below meth c T' (locs ++ L') (cells + rm.cells) (slots + rm.slots) → Qc v T'.heap L' → Go p e below s Q kC kS T' (mkF m pc' Ls (v.toList ++ rest))) : Go p e below s Q kC kS T (mkF m pc Ls St) := by
  subst hret
  obtain ⟨v, _, ⟨T', L', k', n'⟩, -, X', ⟨Lc, hQ, l', y', z'⟩, st⟩ := X.specialBack C.1 (y := y) hy1 C.2.2.2.2.1 (mvT C.2.1 w1) (mvT C.2.1 w2) (mvT C.2.1 w3) hy (backOf (W := W) hM C.2.1 w3 w4 hf hl) (g := mkF m pc Ls St) rfl (hsz.trans C.2.2.2.1.symm) (Steps.refl _) (a := a) (argsL := argsL) (rest := rest) hlen hst (by show 2 * 0 + _ ≤ _; simpa using hW) (hb C.2.2.1 hd.1) (fun _ _ => ⟨has.symm, eT, hc, hs⟩)
  dsimp only [Pt.U, Pt.locs, Pt.cells, Pt.slots] at X' l' y' z' st hQ
  subst l' y' z'
  have k := K v T' Lc X' hQ
  rw [hd.2] at k
  exact Go.step (fun t k => st.trans k) k
theorem wvirtual (C : Cur p l e s m meth c Z bc ml own nm rt) (X : Stand p l e R s m args below meth c T locs cells slots) {y z : MethodName} {C0 : String} {bytes : ByteArray} {maxL : Nat} {ret : Option FieldType} {rm : Room} {as' : Array Value} {Qc : Option Value → Heap → List Loc → Prop} {index : Nat} (w1 : (Jvm.Cond.methodLink own index y).before a0 Z = true) (w2 : (Jvm.Cond.declares y).before a0 Z = true) (hnf : NotFace s y) (w3 : (Jvm.Cond.selects C0 y z).before a0 Z = true) (w4 : (Jvm.Cond.instanceMethod z).before a0 Z = true) (w5 : (Jvm.Cond.code z bytes maxL ret).before a0 Z = true) (w6 : (Jvm.Cond.initialized z.cls).before a0 Z = true) (hy : y.cls ≠ "java/lang/invoke/MethodHandle" ∧ y.cls ≠ "java/lang/invoke/VarHandle")
    (hM : MetFree l z (head1 [Jvm.Cond.code z bytes maxL ret] rm) (fun a U => a = as' ∧ Z.Warmed39 U.vm ∧ U.heap = h) (fun _ _ _ _ _ => True) (fun _ U o U' => ∃ v L, o = .returned v ∧ Qc v U'.heap L ∧ FrameEnd U o U' L rm.cells rm.slots)) (eT : T.heap = h) {a : Addr} (E : Exa Z h a C0) (hd : Dec bc pc (.invokevirtual index) 3 pc') {argsL rest St : List Value} (has : as' = (.ref a :: argsL).toArray) (hst : St = argsL.reverse ++ .ref a :: rest) (hlen : ∀ sig, parseMethodDescriptor y.desc = some sig → argsL.length = sig.parameters.length) (hsz : Ls.size = ml) {W : Nat} (hW : (rest.map fun v => v.category).sum ≤ W) (hf : rm.frames + 1 ≤ R.frames) (hl : W + (maxL + 11) + rm.locals ≤ R.locals) (hc : cells + rm.cells ≤ R.cells) (hs : slots + rm.slots ≤ R.slots)
    (K : ∀ (v : Option Value) (T' : State) (L' : List Loc), Stand p l e R s m args below meth c T' (locs ++ L') (cells + rm.cells) (slots + rm.slots) → Qc v T'.heap L' → Go p e below s Q kC kS T' (mkF m pc' Ls (v.toList ++ rest))) : Go p e below s Q kC kS T (mkF m pc Ls St) := by
  obtain ⟨cB, kB, q1, q2, q3⟩ := isOf C.2.1 eT E
  obtain ⟨v, _, ⟨T', L', k', n'⟩, -, X', ⟨Lc, hQ, l', y', z'⟩, st⟩ := X.virtualBack C.1 (y := y) (z := z) C.2.2.2.2.1 (mvT C.2.1 w1) (mvT C.2.1 w2) hnf (mvT C.2.1 w3) (mvT C.2.1 w4) hy (backOf (W := W) hM C.2.1 w5 w6 hf hl) q1 q3 (g := mkF m pc Ls St) rfl (hsz.trans C.2.2.2.1.symm) (Steps.refl _) (argsL := argsL) (rest := rest) hlen hst (by show 2 * 0 + _ ≤ _; simpa using hW) (hb C.2.2.1 hd.1) (fun _ _ => ⟨has.symm, eT, hc, hs⟩)
  dsimp only [Pt.U, Pt.locs, Pt.cells, Pt.slots] at X' l' y' z' st hQ
  subst l' y' z'
  have k := K v T' Lc X' hQ
  rw [hd.2] at k
  exact Go.step (fun t k => st.trans k) k
theorem own_selp {y : MethodName} {nI : Nat} (hZ : Z.Warmed39 s.vm) (wi : (Jvm.Cond.instantiable y.cls nI).before a0 Z = true) (wp : (Jvm.Cond.privateMethod y).before a0 Z = true) (w2 : (Jvm.Cond.instanceMethod y).before a0 Z = true) (hy : y.cls ≠ "java/lang/invoke/MethodHandle" ∧ y.cls ≠ "java/lang/invoke/VarHandle") : (Jvm.Cond.selects y.cls y y).before args s = true := by
  obtain ⟨c', k', h1, h2, -, h4, -⟩ := Cond.instantiable_spec (mvT (args := args) hZ wi)
  exact selects_self_of_private h1 h2 (by simp only [Bool.or_eq_false_iff] at h4; exact h4.1) (Cond.privateMethod_at (mvP hZ wp (args := args))) (mvT hZ w2) hy
theorem wprivate (C : Cur p l e s m meth c Z bc ml own nm rt) (X : Stand p l e R s m args below meth c T locs cells slots) {y : MethodName} {bytes : ByteArray} {maxL : Nat} {ret : Option FieldType} {rm : Room} {as' : Array Value} {Qc : Option Value → Heap → List Loc → Prop} {index : Nat} (w1 : (Jvm.Cond.methodLink own index y).before a0 Z = true) (w2 : (Jvm.Cond.instanceMethod y).before a0 Z = true) (w3 : (Jvm.Cond.selects y.cls y y).before a0 Z = true) (w4 : (Jvm.Cond.privateMethod y).before a0 Z = true) (w5 : (Jvm.Cond.code y bytes maxL ret).before a0 Z = true) (w6 : (Jvm.Cond.initialized y.cls).before a0 Z = true) (hy : y.cls ≠ "java/lang/invoke/MethodHandle" ∧ y.cls ≠ "java/lang/invoke/VarHandle")
    (hM : MetFree l y (head1 [Jvm.Cond.code y bytes maxL ret] rm) (fun a U => a = as' ∧ Z.Warmed39 U.vm ∧ U.heap = h) (fun _ _ _ _ _ => True) (fun _ U o U' => ∃ v L, o = .returned v ∧ Qc v U'.heap L ∧ FrameEnd U o U' L rm.cells rm.slots)) (eT : T.heap = h) {a : Addr} {C0 : String} (E : Exa Z h a C0) (hd : Dec bc pc (.invokevirtual index) 3 pc') {argsL rest St : List Value} (has : as' = (.ref a :: argsL).toArray) (hst : St = argsL.reverse ++ .ref a :: rest) (hlen : ∀ sig, parseMethodDescriptor y.desc = some sig → argsL.length = sig.parameters.length) (hsz : Ls.size = ml) {W : Nat} (hW : (rest.map fun v => v.category).sum ≤ W) (hf : rm.frames + 1 ≤ R.frames) (hl : W + (maxL + 11) + rm.locals ≤ R.locals) (hc : cells + rm.cells ≤ R.cells) (hs : slots + rm.slots ≤ R.slots)
    (K : ∀ (v : Option Value) (T' : State) (L' : List Loc), Stand p l e R s m args below meth c T' (locs ++ L') (cells + rm.cells) (slots + rm.slots) → Qc v T'.heap L' → Go p e below s Q kC kS T' (mkF m pc' Ls (v.toList ++ rest))) : Go p e below s Q kC kS T (mkF m pc Ls St) := by
  obtain ⟨cq, q1, q2⟩ := E.cell
  obtain ⟨v, _, ⟨T', L', k', n'⟩, -, X', ⟨Lc, hQ, l', y', z'⟩, st⟩ := X.privateBack C.1 (y := y) C.2.2.2.2.1 (mvT C.2.1 w1) (mvT C.2.1 w2) (mvT C.2.1 w3) (Cond.privateMethod_at (mvP C.2.1 w4 (args := #[]))) (mvT C.2.1 w5) hy (backOf (W := W) hM C.2.1 w5 w6 hf hl) (g := mkF m pc Ls St) rfl (hsz.trans C.2.2.2.1.symm) (Steps.refl _) (a := a) (by rw [eT]; exact q1) q2 (argsL := argsL) (rest := rest) hlen hst (by show 2 * 0 + _ ≤ _; simpa using hW) (hb C.2.2.1 hd.1) (fun _ _ => ⟨has.symm, eT, hc, hs⟩)
  dsimp only [Pt.U, Pt.locs, Pt.cells, Pt.slots] at X' l' y' z' st hQ
  subst l' y' z'
  have k := K v T' Lc X' hQ
  rw [hd.2] at k
  exact Go.step (fun t k => st.trans k) k
theorem wprivateI (C : Cur p l e s m meth c Z bc ml own nm rt) (X : Stand p l e R s m args below meth c T locs cells slots) {y : MethodName} {bytes : ByteArray} {maxL : Nat} {ret : Option FieldType} {rm : Room} {as' : Array Value} {Qc : Option Value → Heap → List Loc → Prop} {index : Nat} (w1 : (Jvm.Cond.methodLink own index y).before a0 Z = true) (w2 : (Jvm.Cond.instanceMethod y).before a0 Z = true) {nI : Nat} (w3 : (Jvm.Cond.instantiable y.cls nI).before a0 Z = true) (w4 : (Jvm.Cond.privateMethod y).before a0 Z = true) (w5 : (Jvm.Cond.code y bytes maxL ret).before a0 Z = true) (w6 : (Jvm.Cond.initialized y.cls).before a0 Z = true) (hy : y.cls ≠ "java/lang/invoke/MethodHandle" ∧ y.cls ≠ "java/lang/invoke/VarHandle")
    (hM : MetFree l y (head1 [Jvm.Cond.code y bytes maxL ret] rm) (fun a U => a = as' ∧ Z.Warmed39 U.vm ∧ U.heap = h) (fun _ _ _ _ _ => True) (fun _ U o U' => ∃ v L, o = .returned v ∧ Qc v U'.heap L ∧ FrameEnd U o U' L rm.cells rm.slots)) (eT : T.heap = h) {a : Addr} {C0 : String} (E : Exa Z h a C0) (hd : Dec bc pc (.invokevirtual index) 3 pc') {argsL rest St : List Value} (has : as' = (.ref a :: argsL).toArray) (hst : St = argsL.reverse ++ .ref a :: rest) (hlen : ∀ sig, parseMethodDescriptor y.desc = some sig → argsL.length = sig.parameters.length) (hsz : Ls.size = ml) {W : Nat} (hW : (rest.map fun v => v.category).sum ≤ W) (hf : rm.frames + 1 ≤ R.frames) (hl : W + (maxL + 11) + rm.locals ≤ R.locals) (hc : cells + rm.cells ≤ R.cells) (hs : slots + rm.slots ≤ R.slots)
    (K : ∀ (v : Option Value) (T' : State) (L' : List Loc), Stand p l e R s m args below meth c T' (locs ++ L') (cells + rm.cells) (slots + rm.slots) → Qc v T'.heap L' → Go p e below s Q kC kS T' (mkF m pc' Ls (v.toList ++ rest))) : Go p e below s Q kC kS T (mkF m pc Ls St) := by
  obtain ⟨cq, q1, q2⟩ := E.cell
  obtain ⟨v, _, ⟨T', L', k', n'⟩, -, X', ⟨Lc, hQ, l', y', z'⟩, st⟩ := X.privateBack C.1 (y := y) C.2.2.2.2.1 (mvT C.2.1 w1) (mvT C.2.1 w2) (own_selp C.2.1 w3 w4 w2 hy) (Cond.privateMethod_at (mvP C.2.1 w4 (args := #[]))) (mvT C.2.1 w5) hy (backOf (W := W) hM C.2.1 w5 w6 hf hl) (g := mkF m pc Ls St) rfl (hsz.trans C.2.2.2.1.symm) (Steps.refl _) (a := a) (by rw [eT]; exact q1) q2 (argsL := argsL) (rest := rest) hlen hst (by show 2 * 0 + _ ≤ _; simpa using hW) (hb C.2.2.1 hd.1) (fun _ _ => ⟨has.symm, eT, hc, hs⟩)
  dsimp only [Pt.U, Pt.locs, Pt.cells, Pt.slots] at X' l' y' z' st hQ
  subst l' y' z'
  have k := K v T' Lc X' hQ
  rw [hd.2] at k
  exact Go.step (fun t k => st.trans k) k
theorem wstatic (C : Cur p l e s m meth c Z bc ml own nm rt) (X : Stand p l e R s m args below meth c T locs cells slots) {y : MethodName} {bytes : ByteArray} {maxL : Nat} {ret : Option FieldType} {rm : Room} {as' : Array Value} {Qc : Option Value → Heap → List Loc → Prop} {index : Nat} (w1 : (Jvm.Cond.methodLink own index y).before a0 Z = true) (w2 : (Jvm.Cond.static y).before a0 Z = true) (w3 : (Jvm.Cond.initialized y.cls).before a0 Z = true) (w4 : (Jvm.Cond.code y bytes maxL ret).before a0 Z = true) (hy : y.cls ≠ "java/lang/invoke/MethodHandle" ∧ y.cls ≠ "java/lang/invoke/VarHandle")
    (hM : MetFree l y (head1 [Jvm.Cond.code y bytes maxL ret] rm) (fun a U => a = as' ∧ Z.Warmed39 U.vm ∧ U.heap = h) (fun _ _ _ _ _ => True) (fun _ U o U' => ∃ v L, o = .returned v ∧ Qc v U'.heap L ∧ FrameEnd U o U' L rm.cells rm.slots)) (eT : T.heap = h) (hd : Dec bc pc (.invokestatic index) 3 pc') {argsL rest St : List Value} (has : as' = argsL.toArray) (hst : St = argsL.reverse ++ rest) (hlen : ∀ sig, parseMethodDescriptor y.desc = some sig → argsL.length = sig.parameters.length) (hsz : Ls.size = ml) {W : Nat} (hW : (rest.map fun v => v.category).sum ≤ W) (hf : rm.frames + 1 ≤ R.frames) (hl : W + (maxL + 11) + rm.locals ≤ R.locals) (hc : cells + rm.cells ≤ R.cells) (hs : slots + rm.slots ≤ R.slots)
    (K : ∀ (v : Option Value) (T' : State) (L' : List Loc), Stand p l e R s m args below meth c T' (locs ++ L') (cells + rm.cells) (slots + rm.slots) → Qc v T'.heap L' → Go p e below s Q kC kS T' (mkF m pc' Ls (v.toList ++ rest))) : Go p e below s Q kC kS T (mkF m pc Ls St) := by
  obtain ⟨v, _, ⟨T', L', k', n'⟩, -, X', ⟨Lc, hQ, l', y', z'⟩, st⟩ := Jvm.LawKit.callS X C.1 (y := y) C.2.2.2.2.1 (mvT C.2.1 w1) (mvT C.2.1 w2) (mvT C.2.1 w3) (mvT C.2.1 w4) hy (backOf (W := W) hM C.2.1 w4 w3 hf hl) (g := mkF m pc Ls St) rfl (hsz.trans C.2.2.2.1.symm) (argsL := argsL) (rest := rest) hlen hst (by show 2 * 0 + _ ≤ _; simpa using hW) (hb C.2.2.1 hd.1) (fun _ _ => ⟨has.symm, eT, hc, hs⟩)
  dsimp only [Pt.U, Pt.locs, Pt.cells, Pt.slots] at X' l' y' z' st hQ
  subst l' y' z'
  have k := K v T' Lc X' hQ
  rw [hd.2] at k
  exact Go.step (st) k
theorem Go.mono {Q' : Option Value → Heap → List Loc → Prop} {f : JFrame} (g : Go p e below s Q kC kS T f) (q : ∀ v h L, Q v h L → Q' v h L) : Go p e below s Q' kC kS T f := by
  obtain ⟨s₂, o, h1, h2, h3, v, L, h4, h5, h6⟩ := g; exact ⟨s₂, o, h1, h2, h3, v, L, h4, q _ _ _ h5, h6⟩
theorem wldcI (C : Cur p l e s m meth c Z bc ml own nm rt) (X : Stand p l e R s m args below meth c T locs cells slots) {index : Nat} {b : Int32} (w : (Jvm.Cond.constant own index b).before a0 Z = true) (hd : Dec bc pc (.ldc index) 2 pc') (g : Go p e below s Q kC kS T (mkF m pc' Ls (.int b :: S))) : Go p e below s Q kC kS T (mkF m pc Ls S) := by
  rw [hd.2] at g
  exact Go.step (X.ldcInt C.1 C.2.2.2.2.1 (mvT C.2.1 w) (g := mkF m pc Ls S) rfl (hb C.2.2.1 hd.1)) g
theorem wldcwI (C : Cur p l e s m meth c Z bc ml own nm rt) (X : Stand p l e R s m args below meth c T locs cells slots) {index : Nat} {b : Int32} (w : (Jvm.Cond.constant own index b).before a0 Z = true) (hd : Dec bc pc (.ldc_w index) 3 pc') (g : Go p e below s Q kC kS T (mkF m pc' Ls (.int b :: S))) : Go p e below s Q kC kS T (mkF m pc Ls S) := by
  rw [hd.2] at g
  exact Go.step (X.ldcwInt C.1 C.2.2.2.2.1 (mvT C.2.1 w) (g := mkF m pc Ls S) rfl (hb C.2.2.1 hd.1)) g
theorem wldc2J (C : Cur p l e s m meth c Z bc ml own nm rt) (X : Stand p l e R s m args below meth c T locs cells slots) {index : Nat} {b : Int64} (w : (Jvm.Cond.constantLong own index b).before a0 Z = true) (hd : Dec bc pc (.ldc2_w index) 3 pc') (g : Go p e below s Q kC kS T (mkF m pc' Ls (.long b :: S))) : Go p e below s Q kC kS T (mkF m pc Ls S) := by
  rw [hd.2] at g
  exact Go.step (X.ldc2Long C.1 C.2.2.2.2.1 (mvT C.2.1 w) (g := mkF m pc Ls S) rfl (hb C.2.2.1 hd.1)) g
theorem wldc2D (C : Cur p l e s m meth c Z bc ml own nm rt) (X : Stand p l e R s m args below meth c T locs cells slots) {index : Nat} {b : UInt64} (w : (Jvm.Cond.constantDouble own index b).before a0 Z = true) (hd : Dec bc pc (.ldc2_w index) 3 pc') (g : Go p e below s Q kC kS T (mkF m pc' Ls (.double b :: S))) : Go p e below s Q kC kS T (mkF m pc Ls S) := by
  rw [hd.2] at g
  exact Go.step (X.ldc2DoubleC C.1 C.2.2.2.2.1 (mvT C.2.1 w) (g := mkF m pc Ls S) rfl (hb C.2.2.1 hd.1)) g
theorem wmaxD (C : Cur p l e s m meth c Z bc ml own nm rt) (X : Stand p l e R s m args below meth c T locs cells slots) {index : Nat} {x y : UInt64} (w1 : (Jvm.Cond.methodLink own index Jvm.Free.Fl.Abs.maxDN).before a0 Z = true) (w2 : (Jvm.Cond.static Jvm.Free.Fl.Abs.maxDN).before a0 Z = true) (w3 : (Jvm.Cond.initialized Jvm.Free.Fl.Abs.maxDN.cls).before a0 Z = true) (w4 : (Jvm.Cond.code Jvm.Free.Fl.Abs.maxDN Jvm.Free.Fl.Abs.maxDCode 4 (some .double)).before a0 Z = true)
    (eT : T.heap = h) (hd : Dec bc pc (.invokestatic index) 3 pc') (nx : Jvm.Free.Fl.NoNaN64 x) (ny : Jvm.Free.Fl.NoNaN64 y) (hsz : Ls.size = ml) {W : Nat} (hW : (S.map fun v => v.category).sum ≤ W) (hf : 1 ≤ R.frames) (hl : W + 15 ≤ R.locals) (hc : cells ≤ R.cells) (hs : slots ≤ R.slots)
    (K : ∀ T' : State, Stand p l e R s m args below meth c T' locs cells slots → T'.heap = h → Go p e below s Q kC kS T' (mkF m pc' Ls (.double (Jvm.Native.java_lang_Math.nans.pick64 true x y) :: S))) : Go p e below s Q kC kS T (mkF m pc Ls (.double y :: .double x :: S)) := by
  obtain ⟨T', X', e', st⟩ := natS X C.1 C.2.1 C.2.2.2.2.1 w1 w2 w3 w4 (by decide) eT (W := W) (F := fun a' => a' = #[.double x, .double y] ∧ Jvm.Free.Fl.NoNaN64 x ∧ Jvm.Free.Fl.NoNaN64 y) (fun c4 => Jvm.Free.Fl.Abs.maxD_pays x y c4 hf hl) (g := mkF m pc Ls (.double y :: .double x :: S)) rfl (hsz.trans C.2.2.2.1.symm) (argsL := [.double x, .double y]) (rest := S) (lenOf (show parseMethodDescriptor "(DD)D" = some ⟨[.double, .double], some .double⟩ by decide +kernel) rfl) rfl (by show 2 * 0 + _ ≤ _; simpa using hW) (hb C.2.2.1 hd.1) hc hs ⟨rfl, nx, ny⟩ rfl
  have k := K T' X' e'
  rw [hd.2] at k
  exact Go.step st k
end Kit
section Kit2
variable {p : Program} {e : Env} {below : List Frame} {s : State} {Q : Option Value → Heap → List Loc → Prop} {kC kS : Nat} {T : State} {m : MethodId} {pc : Nat} {Ls : Array Slot} {S : List Value}
theorem own_foldI {x z : Int32} (q : x = z) (g : Go p e below s Q kC kS T (mkF m pc Ls (.int z :: S))) : Go p e below s Q kC kS T (mkF m pc Ls (.int x :: S)) := q ▸ g
theorem own_foldJ {x z : Int64} (q : x = z) (g : Go p e below s Q kC kS T (mkF m pc Ls (.long z :: S))) : Go p e below s Q kC kS T (mkF m pc Ls (.long x :: S)) := q ▸ g
theorem own_foldD {x z : UInt64} (q : x = z) (g : Go p e below s Q kC kS T (mkF m pc Ls (.double z :: S))) : Go p e below s Q kC kS T (mkF m pc Ls (.double x :: S)) := q ▸ g
end Kit2
theorem tw_0 {Z : State} {a0 : Array Value} (hw : ∀ d ∈ tables_1, d.before a0 Z = true) : (Jvm.Cond.constant "com/example/hornwork/hornwork/FibonacciHeapIsEmptyPinLaw" (7 : Nat) (2147483647 : Int32)).before a0 Z = true := hw _ (List.mem_of_getElem? (i := 0) rfl)
theorem tw_1 {Z : State} {a0 : Array Value} (hw : ∀ d ∈ tables_1, d.before a0 Z = true) : (Jvm.Cond.classLink "com/example/hornwork/hornwork/FibonacciHeapIsEmptyPinLaw" (8 : Nat) "com/example/hornwork/hornwork/FibonacciHeap").before a0 Z = true := hw _ (List.mem_of_getElem? (i := 1) rfl)
theorem tw_2 {Z : State} {a0 : Array Value} (hw : ∀ d ∈ tables_1, d.before a0 Z = true) : (Jvm.Cond.instantiable "com/example/hornwork/hornwork/FibonacciHeap" (11 : Nat)).before a0 Z = true := hw _ (List.mem_of_getElem? (i := 2) rfl)
theorem tw_3 {Z : State} {a0 : Array Value} (hw : ∀ d ∈ tables_1, d.before a0 Z = true) : (Jvm.Cond.initialized "com/example/hornwork/hornwork/FibonacciHeap").before a0 Z = true := hw _ (List.mem_of_getElem? (i := 3) rfl)
theorem tw_4 {Z : State} {a0 : Array Value} (hw : ∀ d ∈ tables_1, d.before a0 Z = true) : (Jvm.Cond.methodLink "com/example/hornwork/hornwork/FibonacciHeapIsEmptyPinLaw" (10 : Nat) ({ cls := "com/example/hornwork/hornwork/FibonacciHeap", name := "<init>", desc := "(I)V" } : Jvm.MethodName)).before a0 Z = true := hw _ (List.mem_of_getElem? (i := 4) rfl)
theorem tw_5 {Z : State} {a0 : Array Value} (hw : ∀ d ∈ tables_1, d.before a0 Z = true) : (Jvm.Cond.instanceMethod ({ cls := "com/example/hornwork/hornwork/FibonacciHeap", name := "<init>", desc := "(I)V" } : Jvm.MethodName)).before a0 Z = true := hw _ (List.mem_of_getElem? (i := 5) rfl)
theorem tw_6 {Z : State} {a0 : Array Value} (hw : ∀ d ∈ tables_1, d.before a0 Z = true) : (Jvm.Cond.code ({ cls := "com/example/hornwork/hornwork/FibonacciHeap", name := "<init>", desc := "(I)V" } : Jvm.MethodName) prog_25_method_1_code (2 : Nat) (Option.none : Option Jvm.ClassFile.FieldType)).before a0 Z = true := hw _ (List.mem_of_getElem? (i := 6) rfl)
theorem tw_7 {Z : State} {a0 : Array Value} (hw : ∀ d ∈ tables_1, d.before a0 Z = true) : (Jvm.Cond.methodLink "com/example/hornwork/hornwork/FibonacciHeap" (1 : Nat) ({ cls := "java/lang/Object", name := "<init>", desc := "()V" } : Jvm.MethodName)).before a0 Z = true := hw _ (List.mem_of_getElem? (i := 7) rfl)
theorem tw_8 {Z : State} {a0 : Array Value} (hw : ∀ d ∈ tables_1, d.before a0 Z = true) : (Jvm.Cond.instanceMethod ({ cls := "java/lang/Object", name := "<init>", desc := "()V" } : Jvm.MethodName)).before a0 Z = true := hw _ (List.mem_of_getElem? (i := 8) rfl)
theorem tw_9 {Z : State} {a0 : Array Value} (hw : ∀ d ∈ tables_1, d.before a0 Z = true) : (Jvm.Cond.code ({ cls := "java/lang/Object", name := "<init>", desc := "()V" } : Jvm.MethodName) object_method_1_code (1 : Nat) (Option.none : Option Jvm.ClassFile.FieldType)).before a0 Z = true := hw _ (List.mem_of_getElem? (i := 9) rfl)
theorem tw_10 {Z : State} {a0 : Array Value} (hw : ∀ d ∈ tables_1, d.before a0 Z = true) : (Jvm.Cond.arrayClass Jvm.ClassFile.FieldType.int).before a0 Z = true := hw _ (List.mem_of_getElem? (i := 10) rfl)
theorem tw_11 {Z : State} {a0 : Array Value} (hw : ∀ d ∈ tables_1, d.before a0 Z = true) : (Jvm.Cond.fieldLink "com/example/hornwork/hornwork/FibonacciHeap" (9 : Nat) "com/example/hornwork/hornwork/FibonacciHeap" "rootOfDegree" "[I").before a0 Z = true := hw _ (List.mem_of_getElem? (i := 11) rfl)
theorem tw_12 {Z : State} {a0 : Array Value} (hw : ∀ d ∈ tables_1, d.before a0 Z = true) : (Jvm.Cond.laysFinal "com/example/hornwork/hornwork/FibonacciHeap" "com/example/hornwork/hornwork/FibonacciHeap" "rootOfDegree" "[I").before a0 Z = true := hw _ (List.mem_of_getElem? (i := 12) rfl)
theorem tw_13 {Z : State} {a0 : Array Value} (hw : ∀ d ∈ tables_1, d.before a0 Z = true) : (Jvm.Cond.fieldLink "com/example/hornwork/hornwork/FibonacciHeap" (13 : Nat) "com/example/hornwork/hornwork/FibonacciHeap" "least" "I").before a0 Z = true := hw _ (List.mem_of_getElem? (i := 13) rfl)
theorem tw_14 {Z : State} {a0 : Array Value} (hw : ∀ d ∈ tables_1, d.before a0 Z = true) : (Jvm.Cond.lays "com/example/hornwork/hornwork/FibonacciHeap" "com/example/hornwork/hornwork/FibonacciHeap" "least" "I").before a0 Z = true := hw _ (List.mem_of_getElem? (i := 14) rfl)
theorem tw_15 {Z : State} {a0 : Array Value} (hw : ∀ d ∈ tables_1, d.before a0 Z = true) : (Jvm.Cond.arrayClass Jvm.ClassFile.FieldType.double).before a0 Z = true := hw _ (List.mem_of_getElem? (i := 15) rfl)
theorem tw_16 {Z : State} {a0 : Array Value} (hw : ∀ d ∈ tables_1, d.before a0 Z = true) : (Jvm.Cond.fieldLink "com/example/hornwork/hornwork/FibonacciHeap" (17 : Nat) "com/example/hornwork/hornwork/FibonacciHeap" "key" "[D").before a0 Z = true := hw _ (List.mem_of_getElem? (i := 16) rfl)
theorem tw_17 {Z : State} {a0 : Array Value} (hw : ∀ d ∈ tables_1, d.before a0 Z = true) : (Jvm.Cond.laysFinal "com/example/hornwork/hornwork/FibonacciHeap" "com/example/hornwork/hornwork/FibonacciHeap" "key" "[D").before a0 Z = true := hw _ (List.mem_of_getElem? (i := 17) rfl)
theorem tw_18 {Z : State} {a0 : Array Value} (hw : ∀ d ∈ tables_1, d.before a0 Z = true) : (Jvm.Cond.fieldLink "com/example/hornwork/hornwork/FibonacciHeap" (21 : Nat) "com/example/hornwork/hornwork/FibonacciHeap" "parent" "[I").before a0 Z = true := hw _ (List.mem_of_getElem? (i := 18) rfl)
theorem tw_19 {Z : State} {a0 : Array Value} (hw : ∀ d ∈ tables_1, d.before a0 Z = true) : (Jvm.Cond.laysFinal "com/example/hornwork/hornwork/FibonacciHeap" "com/example/hornwork/hornwork/FibonacciHeap" "parent" "[I").before a0 Z = true := hw _ (List.mem_of_getElem? (i := 19) rfl)
theorem tw_20 {Z : State} {a0 : Array Value} (hw : ∀ d ∈ tables_1, d.before a0 Z = true) : (Jvm.Cond.fieldLink "com/example/hornwork/hornwork/FibonacciHeap" (24 : Nat) "com/example/hornwork/hornwork/FibonacciHeap" "child" "[I").before a0 Z = true := hw _ (List.mem_of_getElem? (i := 20) rfl)
theorem tw_21 {Z : State} {a0 : Array Value} (hw : ∀ d ∈ tables_1, d.before a0 Z = true) : (Jvm.Cond.laysFinal "com/example/hornwork/hornwork/FibonacciHeap" "com/example/hornwork/hornwork/FibonacciHeap" "child" "[I").before a0 Z = true := hw _ (List.mem_of_getElem? (i := 21) rfl)
theorem tw_22 {Z : State} {a0 : Array Value} (hw : ∀ d ∈ tables_1, d.before a0 Z = true) : (Jvm.Cond.fieldLink "com/example/hornwork/hornwork/FibonacciHeap" (27 : Nat) "com/example/hornwork/hornwork/FibonacciHeap" "left" "[I").before a0 Z = true := hw _ (List.mem_of_getElem? (i := 22) rfl)
theorem tw_23 {Z : State} {a0 : Array Value} (hw : ∀ d ∈ tables_1, d.before a0 Z = true) : (Jvm.Cond.laysFinal "com/example/hornwork/hornwork/FibonacciHeap" "com/example/hornwork/hornwork/FibonacciHeap" "left" "[I").before a0 Z = true := hw _ (List.mem_of_getElem? (i := 23) rfl)
theorem tw_24 {Z : State} {a0 : Array Value} (hw : ∀ d ∈ tables_1, d.before a0 Z = true) : (Jvm.Cond.fieldLink "com/example/hornwork/hornwork/FibonacciHeap" (30 : Nat) "com/example/hornwork/hornwork/FibonacciHeap" "right" "[I").before a0 Z = true := hw _ (List.mem_of_getElem? (i := 24) rfl)
theorem tw_25 {Z : State} {a0 : Array Value} (hw : ∀ d ∈ tables_1, d.before a0 Z = true) : (Jvm.Cond.laysFinal "com/example/hornwork/hornwork/FibonacciHeap" "com/example/hornwork/hornwork/FibonacciHeap" "right" "[I").before a0 Z = true := hw _ (List.mem_of_getElem? (i := 25) rfl)
theorem tw_26 {Z : State} {a0 : Array Value} (hw : ∀ d ∈ tables_1, d.before a0 Z = true) : (Jvm.Cond.fieldLink "com/example/hornwork/hornwork/FibonacciHeap" (33 : Nat) "com/example/hornwork/hornwork/FibonacciHeap" "degree" "[I").before a0 Z = true := hw _ (List.mem_of_getElem? (i := 26) rfl)
theorem tw_27 {Z : State} {a0 : Array Value} (hw : ∀ d ∈ tables_1, d.before a0 Z = true) : (Jvm.Cond.laysFinal "com/example/hornwork/hornwork/FibonacciHeap" "com/example/hornwork/hornwork/FibonacciHeap" "degree" "[I").before a0 Z = true := hw _ (List.mem_of_getElem? (i := 27) rfl)
theorem tw_28 {Z : State} {a0 : Array Value} (hw : ∀ d ∈ tables_1, d.before a0 Z = true) : (Jvm.Cond.arrayClass Jvm.ClassFile.FieldType.boolean).before a0 Z = true := hw _ (List.mem_of_getElem? (i := 28) rfl)
theorem tw_29 {Z : State} {a0 : Array Value} (hw : ∀ d ∈ tables_1, d.before a0 Z = true) : (Jvm.Cond.fieldLink "com/example/hornwork/hornwork/FibonacciHeap" (36 : Nat) "com/example/hornwork/hornwork/FibonacciHeap" "marked" "[Z").before a0 Z = true := hw _ (List.mem_of_getElem? (i := 29) rfl)
theorem tw_30 {Z : State} {a0 : Array Value} (hw : ∀ d ∈ tables_1, d.before a0 Z = true) : (Jvm.Cond.laysFinal "com/example/hornwork/hornwork/FibonacciHeap" "com/example/hornwork/hornwork/FibonacciHeap" "marked" "[Z").before a0 Z = true := hw _ (List.mem_of_getElem? (i := 30) rfl)
theorem tw_31 {Z : State} {a0 : Array Value} (hw : ∀ d ∈ tables_1, d.before a0 Z = true) : (Jvm.Cond.fieldLink "com/example/hornwork/hornwork/FibonacciHeap" (40 : Nat) "com/example/hornwork/hornwork/FibonacciHeap" "contained" "[Z").before a0 Z = true := hw _ (List.mem_of_getElem? (i := 31) rfl)
theorem tw_32 {Z : State} {a0 : Array Value} (hw : ∀ d ∈ tables_1, d.before a0 Z = true) : (Jvm.Cond.laysFinal "com/example/hornwork/hornwork/FibonacciHeap" "com/example/hornwork/hornwork/FibonacciHeap" "contained" "[Z").before a0 Z = true := hw _ (List.mem_of_getElem? (i := 32) rfl)
theorem tw_33 {Z : State} {a0 : Array Value} (hw : ∀ d ∈ tables_1, d.before a0 Z = true) : (Jvm.Cond.fieldLink "com/example/hornwork/hornwork/FibonacciHeap" (43 : Nat) "com/example/hornwork/hornwork/FibonacciHeap" "roots" "[I").before a0 Z = true := hw _ (List.mem_of_getElem? (i := 33) rfl)
theorem tw_34 {Z : State} {a0 : Array Value} (hw : ∀ d ∈ tables_1, d.before a0 Z = true) : (Jvm.Cond.laysFinal "com/example/hornwork/hornwork/FibonacciHeap" "com/example/hornwork/hornwork/FibonacciHeap" "roots" "[I").before a0 Z = true := hw _ (List.mem_of_getElem? (i := 34) rfl)
theorem tw_35 {Z : State} {a0 : Array Value} (hw : ∀ d ∈ tables_1, d.before a0 Z = true) : (Jvm.Cond.methodLink "com/example/hornwork/hornwork/FibonacciHeap" (46 : Nat) ({ cls := "java/util/Arrays", name := "fill", desc := "([II)V" } : Jvm.MethodName)).before a0 Z = true := hw _ (List.mem_of_getElem? (i := 35) rfl)
theorem tw_36 {Z : State} {a0 : Array Value} (hw : ∀ d ∈ tables_1, d.before a0 Z = true) : (Jvm.Cond.static ({ cls := "java/util/Arrays", name := "fill", desc := "([II)V" } : Jvm.MethodName)).before a0 Z = true := hw _ (List.mem_of_getElem? (i := 36) rfl)
theorem tw_37 {Z : State} {a0 : Array Value} (hw : ∀ d ∈ tables_1, d.before a0 Z = true) : (Jvm.Cond.initialized "java/util/Arrays").before a0 Z = true := hw _ (List.mem_of_getElem? (i := 37) rfl)
theorem tw_38 {Z : State} {a0 : Array Value} (hw : ∀ d ∈ tables_1, d.before a0 Z = true) : (Jvm.Cond.code ({ cls := "java/util/Arrays", name := "fill", desc := "([II)V" } : Jvm.MethodName) jdk_65_method_103_code (4 : Nat) (Option.none : Option Jvm.ClassFile.FieldType)).before a0 Z = true := hw _ (List.mem_of_getElem? (i := 38) rfl)
theorem tw_39 {Z : State} {a0 : Array Value} (hw : ∀ d ∈ tables_1, d.before a0 Z = true) : (Jvm.Cond.methodLink "com/example/hornwork/hornwork/FibonacciHeapIsEmptyPinLaw" (13 : Nat) ({ cls := "com/example/hornwork/hornwork/FibonacciHeap", name := "isEmpty", desc := "()Z" } : Jvm.MethodName)).before a0 Z = true := hw _ (List.mem_of_getElem? (i := 39) rfl)
theorem tw_40 {Z : State} {a0 : Array Value} (hw : ∀ d ∈ tables_1, d.before a0 Z = true) : (Jvm.Cond.declares ({ cls := "com/example/hornwork/hornwork/FibonacciHeap", name := "isEmpty", desc := "()Z" } : Jvm.MethodName)).before a0 Z = true := hw _ (List.mem_of_getElem? (i := 40) rfl)
theorem tw_41 {Z : State} {a0 : Array Value} (hw : ∀ d ∈ tables_1, d.before a0 Z = true) : (Jvm.Cond.instanceMethod ({ cls := "com/example/hornwork/hornwork/FibonacciHeap", name := "isEmpty", desc := "()Z" } : Jvm.MethodName)).before a0 Z = true := hw _ (List.mem_of_getElem? (i := 41) rfl)
theorem tw_42 {Z : State} {a0 : Array Value} (hw : ∀ d ∈ tables_1, d.before a0 Z = true) : (Jvm.Cond.selects "com/example/hornwork/hornwork/FibonacciHeap" ({ cls := "com/example/hornwork/hornwork/FibonacciHeap", name := "isEmpty", desc := "()Z" } : Jvm.MethodName) ({ cls := "com/example/hornwork/hornwork/FibonacciHeap", name := "isEmpty", desc := "()Z" } : Jvm.MethodName)).before a0 Z = true := hw _ (List.mem_of_getElem? (i := 42) rfl)
theorem tw_43 {Z : State} {a0 : Array Value} (hw : ∀ d ∈ tables_1, d.before a0 Z = true) : (Jvm.Cond.code ({ cls := "com/example/hornwork/hornwork/FibonacciHeap", name := "isEmpty", desc := "()Z" } : Jvm.MethodName) prog_25_method_2_code (1 : Nat) (Option.some Jvm.ClassFile.FieldType.boolean)).before a0 Z = true := hw _ (List.mem_of_getElem? (i := 43) rfl)
theorem tw_44 {Z : State} {a0 : Array Value} (hw : ∀ d ∈ tables_1, d.before a0 Z = true) : (Jvm.Cond.methodLink "com/example/hornwork/hornwork/FibonacciHeapIsEmptyPinLaw" (17 : Nat) ({ cls := "com/example/hornwork/hornwork/FibonacciHeap", name := "insert", desc := "(ID)V" } : Jvm.MethodName)).before a0 Z = true := hw _ (List.mem_of_getElem? (i := 44) rfl)
theorem tw_45 {Z : State} {a0 : Array Value} (hw : ∀ d ∈ tables_1, d.before a0 Z = true) : (Jvm.Cond.declares ({ cls := "com/example/hornwork/hornwork/FibonacciHeap", name := "insert", desc := "(ID)V" } : Jvm.MethodName)).before a0 Z = true := hw _ (List.mem_of_getElem? (i := 45) rfl)
theorem tw_46 {Z : State} {a0 : Array Value} (hw : ∀ d ∈ tables_1, d.before a0 Z = true) : (Jvm.Cond.instanceMethod ({ cls := "com/example/hornwork/hornwork/FibonacciHeap", name := "insert", desc := "(ID)V" } : Jvm.MethodName)).before a0 Z = true := hw _ (List.mem_of_getElem? (i := 46) rfl)
theorem tw_47 {Z : State} {a0 : Array Value} (hw : ∀ d ∈ tables_1, d.before a0 Z = true) : (Jvm.Cond.selects "com/example/hornwork/hornwork/FibonacciHeap" ({ cls := "com/example/hornwork/hornwork/FibonacciHeap", name := "insert", desc := "(ID)V" } : Jvm.MethodName) ({ cls := "com/example/hornwork/hornwork/FibonacciHeap", name := "insert", desc := "(ID)V" } : Jvm.MethodName)).before a0 Z = true := hw _ (List.mem_of_getElem? (i := 47) rfl)
theorem tw_48 {Z : State} {a0 : Array Value} (hw : ∀ d ∈ tables_1, d.before a0 Z = true) : (Jvm.Cond.code ({ cls := "com/example/hornwork/hornwork/FibonacciHeap", name := "insert", desc := "(ID)V" } : Jvm.MethodName) prog_25_method_5_code (4 : Nat) (Option.none : Option Jvm.ClassFile.FieldType)).before a0 Z = true := hw _ (List.mem_of_getElem? (i := 48) rfl)
theorem tw_49 {Z : State} {a0 : Array Value} (hw : ∀ d ∈ tables_1, d.before a0 Z = true) : (Jvm.Cond.methodLink "com/example/hornwork/hornwork/FibonacciHeap" (52 : Nat) ({ cls := "com/example/hornwork/hornwork/FibonacciHeap", name := "addRoot", desc := "(I)V" } : Jvm.MethodName)).before a0 Z = true := hw _ (List.mem_of_getElem? (i := 49) rfl)
theorem tw_50 {Z : State} {a0 : Array Value} (hw : ∀ d ∈ tables_1, d.before a0 Z = true) : (Jvm.Cond.instanceMethod ({ cls := "com/example/hornwork/hornwork/FibonacciHeap", name := "addRoot", desc := "(I)V" } : Jvm.MethodName)).before a0 Z = true := hw _ (List.mem_of_getElem? (i := 50) rfl)
theorem tw_51 {Z : State} {a0 : Array Value} (hw : ∀ d ∈ tables_1, d.before a0 Z = true) : (Jvm.Cond.privateMethod ({ cls := "com/example/hornwork/hornwork/FibonacciHeap", name := "addRoot", desc := "(I)V" } : Jvm.MethodName)).before a0 Z = true := hw _ (List.mem_of_getElem? (i := 51) rfl)
theorem tw_52 {Z : State} {a0 : Array Value} (hw : ∀ d ∈ tables_1, d.before a0 Z = true) : (Jvm.Cond.code ({ cls := "com/example/hornwork/hornwork/FibonacciHeap", name := "addRoot", desc := "(I)V" } : Jvm.MethodName) prog_25_method_9_code (2 : Nat) (Option.none : Option Jvm.ClassFile.FieldType)).before a0 Z = true := hw _ (List.mem_of_getElem? (i := 52) rfl)
theorem tw_53 {Z : State} {a0 : Array Value} (hw : ∀ d ∈ tables_1, d.before a0 Z = true) : (Jvm.Cond.methodLink "com/example/hornwork/hornwork/FibonacciHeap" (74 : Nat) ({ cls := "com/example/hornwork/hornwork/FibonacciHeap", name := "splice", desc := "(II)V" } : Jvm.MethodName)).before a0 Z = true := hw _ (List.mem_of_getElem? (i := 53) rfl)
theorem tw_54 {Z : State} {a0 : Array Value} (hw : ∀ d ∈ tables_1, d.before a0 Z = true) : (Jvm.Cond.instanceMethod ({ cls := "com/example/hornwork/hornwork/FibonacciHeap", name := "splice", desc := "(II)V" } : Jvm.MethodName)).before a0 Z = true := hw _ (List.mem_of_getElem? (i := 54) rfl)
theorem tw_55 {Z : State} {a0 : Array Value} (hw : ∀ d ∈ tables_1, d.before a0 Z = true) : (Jvm.Cond.privateMethod ({ cls := "com/example/hornwork/hornwork/FibonacciHeap", name := "splice", desc := "(II)V" } : Jvm.MethodName)).before a0 Z = true := hw _ (List.mem_of_getElem? (i := 55) rfl)
theorem tw_56 {Z : State} {a0 : Array Value} (hw : ∀ d ∈ tables_1, d.before a0 Z = true) : (Jvm.Cond.code ({ cls := "com/example/hornwork/hornwork/FibonacciHeap", name := "splice", desc := "(II)V" } : Jvm.MethodName) prog_25_method_10_code (5 : Nat) (Option.none : Option Jvm.ClassFile.FieldType)).before a0 Z = true := hw _ (List.mem_of_getElem? (i := 56) rfl)
theorem tw_57 {Z : State} {a0 : Array Value} (hw : ∀ d ∈ tables_1, d.before a0 Z = true) : (Jvm.Cond.methodLink "com/example/hornwork/hornwork/FibonacciHeap" (63 : Nat) ({ cls := "com/example/hornwork/hornwork/FibonacciHeap", name := "before", desc := "(II)Z" } : Jvm.MethodName)).before a0 Z = true := hw _ (List.mem_of_getElem? (i := 57) rfl)
theorem tw_58 {Z : State} {a0 : Array Value} (hw : ∀ d ∈ tables_1, d.before a0 Z = true) : (Jvm.Cond.instanceMethod ({ cls := "com/example/hornwork/hornwork/FibonacciHeap", name := "before", desc := "(II)Z" } : Jvm.MethodName)).before a0 Z = true := hw _ (List.mem_of_getElem? (i := 58) rfl)
theorem tw_59 {Z : State} {a0 : Array Value} (hw : ∀ d ∈ tables_1, d.before a0 Z = true) : (Jvm.Cond.privateMethod ({ cls := "com/example/hornwork/hornwork/FibonacciHeap", name := "before", desc := "(II)Z" } : Jvm.MethodName)).before a0 Z = true := hw _ (List.mem_of_getElem? (i := 59) rfl)
theorem tw_60 {Z : State} {a0 : Array Value} (hw : ∀ d ∈ tables_1, d.before a0 Z = true) : (Jvm.Cond.code ({ cls := "com/example/hornwork/hornwork/FibonacciHeap", name := "before", desc := "(II)Z" } : Jvm.MethodName) prog_25_method_8_code (3 : Nat) (Option.some Jvm.ClassFile.FieldType.boolean)).before a0 Z = true := hw _ (List.mem_of_getElem? (i := 60) rfl)
theorem tw_61 {Z : State} {a0 : Array Value} (hw : ∀ d ∈ tables_1, d.before a0 Z = true) : (Jvm.Cond.methodLink "com/example/hornwork/hornwork/FibonacciHeapIsEmptyPinLaw" (21 : Nat) ({ cls := "com/example/hornwork/hornwork/FibonacciHeap", name := "removeLeast", desc := "()I" } : Jvm.MethodName)).before a0 Z = true := hw _ (List.mem_of_getElem? (i := 61) rfl)
theorem tw_62 {Z : State} {a0 : Array Value} (hw : ∀ d ∈ tables_1, d.before a0 Z = true) : (Jvm.Cond.declares ({ cls := "com/example/hornwork/hornwork/FibonacciHeap", name := "removeLeast", desc := "()I" } : Jvm.MethodName)).before a0 Z = true := hw _ (List.mem_of_getElem? (i := 62) rfl)
theorem tw_63 {Z : State} {a0 : Array Value} (hw : ∀ d ∈ tables_1, d.before a0 Z = true) : (Jvm.Cond.instanceMethod ({ cls := "com/example/hornwork/hornwork/FibonacciHeap", name := "removeLeast", desc := "()I" } : Jvm.MethodName)).before a0 Z = true := hw _ (List.mem_of_getElem? (i := 63) rfl)
theorem tw_64 {Z : State} {a0 : Array Value} (hw : ∀ d ∈ tables_1, d.before a0 Z = true) : (Jvm.Cond.selects "com/example/hornwork/hornwork/FibonacciHeap" ({ cls := "com/example/hornwork/hornwork/FibonacciHeap", name := "removeLeast", desc := "()I" } : Jvm.MethodName) ({ cls := "com/example/hornwork/hornwork/FibonacciHeap", name := "removeLeast", desc := "()I" } : Jvm.MethodName)).before a0 Z = true := hw _ (List.mem_of_getElem? (i := 64) rfl)
theorem tw_65 {Z : State} {a0 : Array Value} (hw : ∀ d ∈ tables_1, d.before a0 Z = true) : (Jvm.Cond.code ({ cls := "com/example/hornwork/hornwork/FibonacciHeap", name := "removeLeast", desc := "()I" } : Jvm.MethodName) prog_25_method_7_code (4 : Nat) (Option.some Jvm.ClassFile.FieldType.int)).before a0 Z = true := hw _ (List.mem_of_getElem? (i := 65) rfl)
theorem tw_66 {Z : State} {a0 : Array Value} (hw : ∀ d ∈ tables_1, d.before a0 Z = true) : (Jvm.Cond.methodLink "com/example/hornwork/hornwork/FibonacciHeap" (77 : Nat) ({ cls := "com/example/hornwork/hornwork/FibonacciHeap", name := "unlink", desc := "(I)V" } : Jvm.MethodName)).before a0 Z = true := hw _ (List.mem_of_getElem? (i := 66) rfl)
theorem tw_67 {Z : State} {a0 : Array Value} (hw : ∀ d ∈ tables_1, d.before a0 Z = true) : (Jvm.Cond.instanceMethod ({ cls := "com/example/hornwork/hornwork/FibonacciHeap", name := "unlink", desc := "(I)V" } : Jvm.MethodName)).before a0 Z = true := hw _ (List.mem_of_getElem? (i := 67) rfl)
theorem tw_68 {Z : State} {a0 : Array Value} (hw : ∀ d ∈ tables_1, d.before a0 Z = true) : (Jvm.Cond.privateMethod ({ cls := "com/example/hornwork/hornwork/FibonacciHeap", name := "unlink", desc := "(I)V" } : Jvm.MethodName)).before a0 Z = true := hw _ (List.mem_of_getElem? (i := 68) rfl)
theorem tw_69 {Z : State} {a0 : Array Value} (hw : ∀ d ∈ tables_1, d.before a0 Z = true) : (Jvm.Cond.code ({ cls := "com/example/hornwork/hornwork/FibonacciHeap", name := "unlink", desc := "(I)V" } : Jvm.MethodName) prog_25_method_11_code (2 : Nat) (Option.none : Option Jvm.ClassFile.FieldType)).before a0 Z = true := hw _ (List.mem_of_getElem? (i := 69) rfl)
theorem tw_70 {Z : State} {a0 : Array Value} (hw : ∀ d ∈ tables_1, d.before a0 Z = true) : (Jvm.Cond.methodLink "com/example/hornwork/hornwork/FibonacciHeap" (80 : Nat) ({ cls := "com/example/hornwork/hornwork/FibonacciHeap", name := "consolidate", desc := "(I)V" } : Jvm.MethodName)).before a0 Z = true := hw _ (List.mem_of_getElem? (i := 70) rfl)
theorem tw_71 {Z : State} {a0 : Array Value} (hw : ∀ d ∈ tables_1, d.before a0 Z = true) : (Jvm.Cond.instanceMethod ({ cls := "com/example/hornwork/hornwork/FibonacciHeap", name := "consolidate", desc := "(I)V" } : Jvm.MethodName)).before a0 Z = true := hw _ (List.mem_of_getElem? (i := 71) rfl)
theorem tw_72 {Z : State} {a0 : Array Value} (hw : ∀ d ∈ tables_1, d.before a0 Z = true) : (Jvm.Cond.privateMethod ({ cls := "com/example/hornwork/hornwork/FibonacciHeap", name := "consolidate", desc := "(I)V" } : Jvm.MethodName)).before a0 Z = true := hw _ (List.mem_of_getElem? (i := 72) rfl)
theorem tw_73 {Z : State} {a0 : Array Value} (hw : ∀ d ∈ tables_1, d.before a0 Z = true) : (Jvm.Cond.code ({ cls := "com/example/hornwork/hornwork/FibonacciHeap", name := "consolidate", desc := "(I)V" } : Jvm.MethodName) prog_25_method_14_code (10 : Nat) (Option.none : Option Jvm.ClassFile.FieldType)).before a0 Z = true := hw _ (List.mem_of_getElem? (i := 73) rfl)
theorem tw_74 {Z : State} {a0 : Array Value} (hw : ∀ d ∈ tables_1, d.before a0 Z = true) : (Jvm.Cond.methodLink "com/example/hornwork/hornwork/FibonacciHeap" (86 : Nat) ({ cls := "java/lang/Math", name := "max", desc := "(II)I" } : Jvm.MethodName)).before a0 Z = true := hw _ (List.mem_of_getElem? (i := 74) rfl)
theorem tw_75 {Z : State} {a0 : Array Value} (hw : ∀ d ∈ tables_1, d.before a0 Z = true) : (Jvm.Cond.static ({ cls := "java/lang/Math", name := "max", desc := "(II)I" } : Jvm.MethodName)).before a0 Z = true := hw _ (List.mem_of_getElem? (i := 75) rfl)
theorem tw_76 {Z : State} {a0 : Array Value} (hw : ∀ d ∈ tables_1, d.before a0 Z = true) : (Jvm.Cond.initialized "java/lang/Math").before a0 Z = true := hw _ (List.mem_of_getElem? (i := 76) rfl)
theorem tw_77 {Z : State} {a0 : Array Value} (hw : ∀ d ∈ tables_1, d.before a0 Z = true) : (Jvm.Cond.code ({ cls := "java/lang/Math", name := "max", desc := "(II)I" } : Jvm.MethodName) jdk_29_method_65_code (2 : Nat) (Option.some Jvm.ClassFile.FieldType.int)).before a0 Z = true := hw _ (List.mem_of_getElem? (i := 77) rfl)
theorem tw_78 {Z : State} {a0 : Array Value} (hw : ∀ d ∈ tables_1, d.before a0 Z = true) : (Jvm.Cond.methodLink "com/example/hornwork/hornwork/FibonacciHeap" (83 : Nat) ({ cls := "com/example/hornwork/hornwork/FibonacciHeap", name := "link", desc := "(II)V" } : Jvm.MethodName)).before a0 Z = true := hw _ (List.mem_of_getElem? (i := 78) rfl)
theorem tw_79 {Z : State} {a0 : Array Value} (hw : ∀ d ∈ tables_1, d.before a0 Z = true) : (Jvm.Cond.instanceMethod ({ cls := "com/example/hornwork/hornwork/FibonacciHeap", name := "link", desc := "(II)V" } : Jvm.MethodName)).before a0 Z = true := hw _ (List.mem_of_getElem? (i := 79) rfl)
theorem tw_80 {Z : State} {a0 : Array Value} (hw : ∀ d ∈ tables_1, d.before a0 Z = true) : (Jvm.Cond.privateMethod ({ cls := "com/example/hornwork/hornwork/FibonacciHeap", name := "link", desc := "(II)V" } : Jvm.MethodName)).before a0 Z = true := hw _ (List.mem_of_getElem? (i := 80) rfl)
theorem tw_81 {Z : State} {a0 : Array Value} (hw : ∀ d ∈ tables_1, d.before a0 Z = true) : (Jvm.Cond.code ({ cls := "com/example/hornwork/hornwork/FibonacciHeap", name := "link", desc := "(II)V" } : Jvm.MethodName) prog_25_method_15_code (3 : Nat) (Option.none : Option Jvm.ClassFile.FieldType)).before a0 Z = true := hw _ (List.mem_of_getElem? (i := 81) rfl)
theorem pd_0 : parseMethodDescriptor "(I)V" = some ⟨[.int], none⟩ := by decide +kernel
theorem pd_1 : parseMethodDescriptor "(II)V" = some ⟨[.int, .int], none⟩ := by decide +kernel
theorem pd_2 : parseMethodDescriptor "(II)Z" = some ⟨[.int, .int], some .boolean⟩ := by decide +kernel
theorem pd_3 : parseMethodDescriptor "(II)I" = some ⟨[.int, .int], some .int⟩ := by decide +kernel
theorem pd_4 : parseMethodDescriptor "([II)V" = some ⟨[(.array .int), .int], none⟩ := by decide +kernel
theorem pd_5 : parseMethodDescriptor "()Z" = some ⟨[], some .boolean⟩ := by decide +kernel
theorem pd_6 : parseMethodDescriptor "(ID)V" = some ⟨[.int, .double], none⟩ := by decide +kernel
theorem pd_7 : parseMethodDescriptor "()I" = some ⟨[], some .int⟩ := by decide +kernel
theorem bp_b_64 : (Int8.ofInt 64).toInt32 = (64 : Int32) := by decide +kernel
theorem own_nn {i : Int} {a : UInt64} (h : FP.Core.DInt i a) : Jvm.Free.Fl.NoNaN64 a := Jvm.Free.Fl.val64_no.mpr (FP.Core.DInt_ne_nan h)
theorem own_cv {i j : Int} {a b : UInt64} (ha : FP.Core.DInt i a) (hb : FP.Core.DInt j b) (o : CmpOp) : cmpValue (FP.dcmp a b) o = if i < j then -1 else if i = j then 0 else 1 := by
  have h : FP.dcmp a b = some (compare i j) := FP.Core.dcmp_int ha hb
  rw [h]
  simp only [compare, compareOfLessAndEq]
  split
  · rfl
  · split <;> rfl
theorem own_lt {i j : Int} {a b : UInt64} (ha : FP.Core.DInt i a) (hb : FP.Core.DInt j b) (o : CmpOp) : cmpValue (FP.dcmp a b) o < (0 : Int32) ↔ i < j := by
  rw [own_cv ha hb]
  split
  · exact ⟨fun _ => by assumption, fun _ => by decide⟩
  · split
    · exact ⟨fun q => absurd q (by decide), fun q => by omega⟩
    · exact ⟨fun q => absurd q (by decide), fun q => by omega⟩
theorem own_eq {i j : Int} {a b : UInt64} (ha : FP.Core.DInt i a) (hb : FP.Core.DInt j b) (o : CmpOp) : cmpValue (FP.dcmp a b) o = (0 : Int32) ↔ i = j := by
  rw [own_cv ha hb]
  split
  · exact ⟨fun q => absurd q (by decide), fun q => by omega⟩
  · split
    · exact ⟨fun _ => by assumption, fun _ => by decide⟩
    · exact ⟨fun q => absurd q (by decide), fun q => by omega⟩
theorem own_gt {i j : Int} {a b : UInt64} (ha : FP.Core.DInt i a) (hb : FP.Core.DInt j b) (o : CmpOp) : (0 : Int32) < cmpValue (FP.dcmp a b) o ↔ j < i := by
  rw [own_cv ha hb]
  split
  · exact ⟨fun q => absurd q (by decide), fun q => by omega⟩
  · split
    · exact ⟨fun q => absurd q (by decide), fun q => by omega⟩
    · exact ⟨fun _ => by omega, fun _ => by decide⟩
theorem own_i2d (a : Int32) : FP.Core.DInt a.toInt (FP.i2d a) := FP.Core.i2d_int a
theorem own_l2d {a : Int64} (h : a.toInt.natAbs ≤ 2 ^ 53) : FP.Core.DInt a.toInt (FP.l2d a) := FP.Core.l2d_int h
theorem own_neg {i : Int} {a : UInt64} (h : FP.Core.DInt i a) : FP.Core.DInt (-i) (FP.dneg a) := by
  show FP.Core.Whole (-i) (FP.Core.val64 (FP.dneg a))
  rw [FP.val64_dneg]; exact FP.Core.whole_negate h
section Fib
def own_upd (W : Nat → Int) (n : Nat) (w : Int) : Nat → Int := fun j => if j = n then w else W j
theorem own_us (W : Nat → Int) (n : Nat) (w : Int) : own_upd W n w n = w := if_pos rfl
theorem own_un {W : Nat → Int} {n j : Nat} {w : Int} (h : j ≠ n) : own_upd W n w j = W j := if_neg h
def own_updD (W : Nat → UInt64) (n : Nat) (w : UInt64) : Nat → UInt64 := fun j => if j = n then w else W j
theorem own_usD (W : Nat → UInt64) (n : Nat) (w : UInt64) : own_updD W n w n = w := if_pos rfl
theorem own_unD {W : Nat → UInt64} {n j : Nat} {w : UInt64} (h : j ≠ n) : own_updD W n w j = W j := if_neg h
def own_ar (n : Nat) (f : Nat → Int) : List Value := (List.range n).map fun i => .int (Int32.ofInt (f i))
def own_dr (n : Nat) (f : Nat → UInt64) : List Value := (List.range n).map fun i => .double (f i)
theorem own_ar_len (n : Nat) (f : Nat → Int) : (own_ar n f).length = n := by simp [own_ar]
theorem own_dr_len (n : Nat) (f : Nat → UInt64) : (own_dr n f).length = n := by simp [own_dr]
theorem own_ar_at {n i : Nat} {f : Nat → Int} {e : Value} {y : Int} (h : i < n) (q : f i = y) : (own_ar n f).getD i e = .int (Int32.ofInt y) := by
  subst q; simp [own_ar, h]
theorem own_dr_at {n i : Nat} {f : Nat → UInt64} {e : Value} {y : UInt64} (h : i < n) (q : f i = y) : (own_dr n f).getD i e = .double y := by
  subst q; simp [own_dr, h]
theorem own_ar_set {n i : Nat} {f : Nat → Int} {v : Int} {z : Int32} (h : i < n) (q : Int32.ofInt v = z) : (own_ar n f).set i (.int z) = own_ar n (own_upd f i v) := by
  subst q
  apply List.ext_getElem
  · simp [own_ar]
  · intro j h1 h2
    simp only [own_ar, List.getElem_set, List.getElem_map, List.getElem_range, own_upd]
    by_cases e : i = j
    · subst e; simp
    · rw [if_neg e, if_neg (fun q => e q.symm)]
theorem own_dr_set {n i : Nat} {f : Nat → UInt64} {v : UInt64} (h : i < n) : (own_dr n f).set i (.double v) = own_dr n (own_updD f i v) := by
  apply List.ext_getElem
  · simp [own_dr]
  · intro j h1 h2
    simp only [own_dr, List.getElem_set, List.getElem_map, List.getElem_range, own_updD]
    by_cases e : i = j
    · subst e; simp
    · rw [if_neg e, if_neg (fun q => e q.symm)]
theorem own_fx : ∀ i : Nat, i < 3 → ¬ Int32.ofInt (i : Int) < 0 ∧ Int32.ofInt (i : Int) < (3 : Int32) := by decide
theorem own_fc : ∀ i : Nat, i < 3 → (Int32.ofInt (i : Int)).toNatClampNeg = i := by decide
theorem own_fm : ∀ i : Nat, i < 3 → ¬ Int32.ofInt (i : Int) = (-1 : Int32) := by decide
theorem own_fe : ∀ i : Nat, i < 3 → ∀ j : Nat, j < 3 → i ≠ j → ¬ Int32.ofInt (i : Int) = Int32.ofInt (j : Int) := by decide
theorem own_fl : ∀ i : Nat, i < 3 → ∀ j : Nat, j < 3 → (Int32.ofInt (i : Int) < Int32.ofInt (j : Int) ↔ i < j) := by decide
theorem own_vi {z w : Int32} {v : Value} (h : v = .int z) (e : z = w) : v = .int w := e ▸ h
def own_bf (K : Nat → Int) (i j : Nat) : Int32 := if K i < K j ∨ (K i = K j ∧ i < j) then 1 else 0
theorem own_bf1 {K : Nat → Int} {i j : Nat} (h : K i < K j ∨ (K i = K j ∧ i < j)) : (1 : Int32) = own_bf K i j := (if_pos h).symm
theorem own_bf0 {K : Nat → Int} {i j : Nat} (h : ¬ (K i < K j ∨ (K i = K j ∧ i < j))) : (0 : Int32) = own_bf K i j := (if_neg h).symm
theorem own_bfy {K : Nat → Int} {i j : Nat} (h : ¬ own_bf K i j = 0) : K i < K j ∨ (K i = K j ∧ i < j) := by
  unfold own_bf at h; split at h
  · assumption
  · exact absurd rfl h
theorem own_bfn {K : Nat → Int} {i j : Nat} (h : own_bf K i j = 0) : ¬ (K i < K j ∨ (K i = K j ∧ i < j)) := by
  unfold own_bf at h; split at h
  · exact absurd h (by decide)
  · assumption
def own_bfr (K : Nat → Int) (i j : Nat) : Prop := K i < K j ∨ (K i = K j ∧ i < j)
theorem own_bft {K : Nat → Int} {i j : Nat} (h : ¬ (K i < K j ∨ (K i = K j ∧ i < j))) (n : i ≠ j) : own_bfr K j i := by unfold own_bfr; omega
end Fib
theorem f12_0 : Dec jdk_29_method_65_code 0 (.iload_n 0) 1 1 := ⟨by decide +kernel, rfl⟩
theorem f12_1 : Dec jdk_29_method_65_code 1 (.iload_n 1) 1 2 := ⟨by decide +kernel, rfl⟩
theorem f12_2 : DecJ jdk_29_method_65_code 2 (.if_icmp .lt 7) 7 9 5 := ⟨by decide +kernel, by decide, by decide, rfl⟩
theorem f12_5 : Dec jdk_29_method_65_code 5 (.iload_n 0) 1 6 := ⟨by decide +kernel, rfl⟩
theorem f12_6 : DecJ jdk_29_method_65_code 6 (.goto 4) 4 10 9 := ⟨by decide +kernel, by decide, by decide, rfl⟩
theorem f12_9 : Dec jdk_29_method_65_code 9 (.iload_n 1) 1 10 := ⟨by decide +kernel, rfl⟩
theorem f12_10 : Dec jdk_29_method_65_code 10 (.ireturn) 1 11 := ⟨by decide +kernel, rfl⟩
theorem pn_12 : plainFor (⟨"java/lang/Math", "max", "(II)I"⟩ : MethodName) = true := Jvm.Free.JP.mathPlain rfl (by decide +kernel)
theorem ef_12 (m : MethodId) (i : Int32) (j : Int32) : entryFrame m #[(.int i), (.int j)] 2 = mkF m 0 #[.val (.int i), .val (.int j)] [] := by first | (simp [entryFrame, mkF, argsToLocals, Value.category]; done) | rfl
def R12 (i : Int32) (j : Int32) : Int32 := (if i < j then j else i)
def Q12 (Z : State) (i : Int32) (j : Int32) (h0 : Heap) (n0 : Nat) (v9 : Option Value) (h9 : Heap) (L9 : List Loc) : Prop := v9 = some (.int (R12 i j)) ∧ Fr n0 L9 ∧ h9 = h0
set_option maxRecDepth 65536 in
set_option maxHeartbeats 40000000 in
theorem rm12 (l : Launch) (Z : State) (a0 : Array Value) (hw : ∀ d ∈ tables_1, d.before a0 Z = true) (ws : List Jvm.Cond) (i : Int32) (j : Int32) (h0 : Heap) (n0 : Nat) (Z0 : n0 ≤ h0.size) :
    MetFree l (⟨"java/lang/Math", "max", "(II)I"⟩ : MethodName) (head1 (Jvm.Cond.code (⟨"java/lang/Math", "max", "(II)I"⟩ : MethodName) jdk_29_method_65_code 2 (some .int) :: ws) ({ frames := 0, cells := 0, slots := 0, locals := 0 } : Room)) (fun A9 U9 => A9 = #[(.int i), (.int j)] ∧ Z.Warmed39 U9.vm ∧ U9.heap = h0) (fun _ _ _ _ _ => True) (fun _ U9 o9 V9 => ∃ v9 L9, o9 = .returned v9 ∧ (Q12 Z i j h0 n0) v9 V9.heap L9 ∧ FrameEnd U9 o9 V9 L9 ({ frames := 0, cells := 0, slots := 0, locals := 0 } : Room).cells ({ frames := 0, cells := 0, slots := 0, locals := 0 } : Room).slots) := by
  refine met_of (Q := (Q12 Z i j h0 n0)) pn_12 ?_
  intro p e s m below meth c T0 C X0 e0
  have N0 := Fr.nil n0
  refine Go.cast (ef_12 m i j) ?_
  refine wiloadN C X0 f12_0 rfl ?_
  refine wiloadN C X0 f12_1 rfl ?_
  refine wicmp_lt C X0 f12_2 (fun hc2 => ?_) (fun hc2 => ?_)
  · refine wiloadN C X0 f12_9 rfl ?_
    refine wiret C X0 f12_10 rfl (by decide) (by decide) ?_
    rw [e0]
    exact ⟨(by unfold R12; rw [if_pos hc2]), N0, rfl⟩
  · refine wiloadN C X0 f12_5 rfl ?_
    refine wgoto C X0 f12_6 ?_
    refine wiret C X0 f12_10 rfl (by decide) (by decide) ?_
    rw [e0]
    exact ⟨(by unfold R12; rw [if_neg hc2]), N0, rfl⟩
theorem f7_0 : Dec prog_25_method_10_code 0 (.aload_n 0) 1 1 := ⟨by decide +kernel, rfl⟩
theorem f7_1 : Dec prog_25_method_10_code 1 (.getfield 30) 3 4 := ⟨by decide +kernel, rfl⟩
theorem f7_4 : Dec prog_25_method_10_code 4 (.iload_n 1) 1 5 := ⟨by decide +kernel, rfl⟩
theorem f7_5 : Dec prog_25_method_10_code 5 (.iaload) 1 6 := ⟨by decide +kernel, rfl⟩
theorem f7_6 : Dec prog_25_method_10_code 6 (.istore_n 3) 1 7 := ⟨by decide +kernel, rfl⟩
theorem f7_7 : Dec prog_25_method_10_code 7 (.aload_n 0) 1 8 := ⟨by decide +kernel, rfl⟩
theorem f7_8 : Dec prog_25_method_10_code 8 (.getfield 27) 3 11 := ⟨by decide +kernel, rfl⟩
theorem f7_11 : Dec prog_25_method_10_code 11 (.iload_n 2) 1 12 := ⟨by decide +kernel, rfl⟩
theorem f7_12 : Dec prog_25_method_10_code 12 (.iaload) 1 13 := ⟨by decide +kernel, rfl⟩
theorem f7_13 : Dec prog_25_method_10_code 13 (.istore 4) 2 15 := ⟨by decide +kernel, rfl⟩
theorem f7_15 : Dec prog_25_method_10_code 15 (.aload_n 0) 1 16 := ⟨by decide +kernel, rfl⟩
theorem f7_16 : Dec prog_25_method_10_code 16 (.getfield 30) 3 19 := ⟨by decide +kernel, rfl⟩
theorem f7_19 : Dec prog_25_method_10_code 19 (.iload_n 1) 1 20 := ⟨by decide +kernel, rfl⟩
theorem f7_20 : Dec prog_25_method_10_code 20 (.iload_n 2) 1 21 := ⟨by decide +kernel, rfl⟩
theorem f7_21 : Dec prog_25_method_10_code 21 (.iastore) 1 22 := ⟨by decide +kernel, rfl⟩
theorem f7_22 : Dec prog_25_method_10_code 22 (.aload_n 0) 1 23 := ⟨by decide +kernel, rfl⟩
theorem f7_23 : Dec prog_25_method_10_code 23 (.getfield 27) 3 26 := ⟨by decide +kernel, rfl⟩
theorem f7_26 : Dec prog_25_method_10_code 26 (.iload_n 2) 1 27 := ⟨by decide +kernel, rfl⟩
theorem f7_27 : Dec prog_25_method_10_code 27 (.iload_n 1) 1 28 := ⟨by decide +kernel, rfl⟩
theorem f7_28 : Dec prog_25_method_10_code 28 (.iastore) 1 29 := ⟨by decide +kernel, rfl⟩
theorem f7_29 : Dec prog_25_method_10_code 29 (.aload_n 0) 1 30 := ⟨by decide +kernel, rfl⟩
theorem f7_30 : Dec prog_25_method_10_code 30 (.getfield 30) 3 33 := ⟨by decide +kernel, rfl⟩
theorem f7_33 : Dec prog_25_method_10_code 33 (.iload 4) 2 35 := ⟨by decide +kernel, rfl⟩
theorem f7_35 : Dec prog_25_method_10_code 35 (.iload_n 3) 1 36 := ⟨by decide +kernel, rfl⟩
theorem f7_36 : Dec prog_25_method_10_code 36 (.iastore) 1 37 := ⟨by decide +kernel, rfl⟩
theorem f7_37 : Dec prog_25_method_10_code 37 (.aload_n 0) 1 38 := ⟨by decide +kernel, rfl⟩
theorem f7_38 : Dec prog_25_method_10_code 38 (.getfield 27) 3 41 := ⟨by decide +kernel, rfl⟩
theorem f7_41 : Dec prog_25_method_10_code 41 (.iload_n 3) 1 42 := ⟨by decide +kernel, rfl⟩
theorem f7_42 : Dec prog_25_method_10_code 42 (.iload 4) 2 44 := ⟨by decide +kernel, rfl⟩
theorem f7_44 : Dec prog_25_method_10_code 44 (.iastore) 1 45 := ⟨by decide +kernel, rfl⟩
theorem f7_45 : Dec prog_25_method_10_code 45 (.return_) 1 46 := ⟨by decide +kernel, rfl⟩
theorem pn_7 : plainFor (⟨"com/example/hornwork/hornwork/FibonacciHeap", "splice", "(II)V"⟩ : MethodName) = true := plainFor_of_name (show plainName "com/example/hornwork/hornwork/FibonacciHeap" = true by first | (simp [plainName, overriddenIn]; done) | decide +kernel)
theorem ef_7 (m : MethodId) (a : Addr) (x1 : Nat) (x2 : Nat) : entryFrame m #[(.ref a), (.int (Int32.ofInt x1)), (.int (Int32.ofInt x2))] 5 = mkF m 0 #[.val (.ref a), .val (.int (Int32.ofInt x1)), .val (.int (Int32.ofInt x2)), .unset, .unset] [] := by first | (simp [entryFrame, mkF, argsToLocals, Value.category]; done) | rfl
def Q7 (Z : State) (a : Addr) (x1 : Nat) (x2 : Nat) (ri : Addr) (le : Addr) (kri : ClassId) (kle : ClassId) (RI : Nat → Int) (LE : Nat → Int) (r1 : Nat) (l2 : Nat) (h0 : Heap) (n0 : Nat) (v9 : Option Value) (h9 : Heap) (L9 : List Loc) : Prop := v9 = none ∧ Fr n0 L9 ∧ Keep h0 h9 [ri, le] ∧ Arv Z h9 ri kri .int (3 : Int32) (own_ar 3 (own_upd (own_upd RI x1 x2) l2 r1)) (.int (0 : Int32)) ∧ Arv Z h9 le kle .int (3 : Int32) (own_ar 3 (own_upd (own_upd LE x2 x1) r1 l2)) (.int (0 : Int32))
set_option maxRecDepth 65536 in
set_option maxHeartbeats 40000000 in
theorem rm7 (l : Launch) (Z : State) (a0 : Array Value) (hw : ∀ d ∈ tables_1, d.before a0 Z = true) (ws : List Jvm.Cond) (a : Addr) (x1 : Nat) (x2 : Nat) (ri : Addr) (le : Addr) (kri : ClassId) (kle : ClassId) (RI : Nat → Int) (LE : Nat → Int) (r1 : Nat) (l2 : Nat) (h0 : Heap) (n0 : Nat) (Z0 : n0 ≤ h0.size) (Exa_0 : Exa Z h0 a "com/example/hornwork/hornwork/FibonacciHeap") (Fld_1 : Fld Z h0 a "com/example/hornwork/hornwork/FibonacciHeap" "right" "[I" (.ref ri)) (Fld_2 : Fld Z h0 a "com/example/hornwork/hornwork/FibonacciHeap" "left" "[I" (.ref le)) (Arv_3 : Arv Z h0 ri kri .int (3 : Int32) (own_ar 3 RI) (.int (0 : Int32))) (Arv_4 : Arv Z h0 le kle .int (3 : Int32) (own_ar 3 LE) (.int (0 : Int32))) (ge_5 : n0 ≤ ri) (ge_6 : n0 ≤ le) (h_x1 : (x1 < 3)) (h_x2 : (x2 < 3)) (h_r1 : (r1 < 3)) (h_l2 : (l2 < 3)) (eR : (RI x1 = r1)) (eL : (LE x2 = l2)) (ne_a_ri : a ≠ ri) (ne_le_ri : le ≠ ri) (ne_a_le : a ≠ le) :
    MetFree l (⟨"com/example/hornwork/hornwork/FibonacciHeap", "splice", "(II)V"⟩ : MethodName) (head1 (Jvm.Cond.code (⟨"com/example/hornwork/hornwork/FibonacciHeap", "splice", "(II)V"⟩ : MethodName) prog_25_method_10_code 5 none :: ws) ({ frames := 0, cells := 0, slots := 0, locals := 0 } : Room)) (fun A9 U9 => A9 = #[(.ref a), (.int (Int32.ofInt x1)), (.int (Int32.ofInt x2))] ∧ Z.Warmed39 U9.vm ∧ U9.heap = h0) (fun _ _ _ _ _ => True) (fun _ U9 o9 V9 => ∃ v9 L9, o9 = .returned v9 ∧ (Q7 Z a x1 x2 ri le kri kle RI LE r1 l2 h0 n0) v9 V9.heap L9 ∧ FrameEnd U9 o9 V9 L9 ({ frames := 0, cells := 0, slots := 0, locals := 0 } : Room).cells ({ frames := 0, cells := 0, slots := 0, locals := 0 } : Room).slots) := by
  refine met_of (Q := (Q7 Z a x1 x2 ri le kri kle RI LE r1 l2 h0 n0)) pn_7 ?_
  intro p e s m below meth c T0 C X0 e0
  have N0 := Fr.nil n0
  refine Go.cast (ef_7 m a x1 x2) ?_
  refine waloadN C X0 f7_0 rfl rfl ?_
  refine wget C X0 (host := "") (Or.inl (tw_24 hw)) Via.refl e0 Fld_1 f7_1 ?_
  intro T1 X1 e1
  refine wiloadN C X1 f7_4 rfl ?_
  refine wiaload C X1 e1 Arv_3 f7_5 (own_fx _ (by omega)) (i := x1) (own_fc _ (by omega)) (v := (Int32.ofInt r1)) (own_ar_at (by omega) (eR)) ?_
  refine wistoreN C X1 f7_6 #[.val (.ref a), .val (.int (Int32.ofInt x1)), .val (.int (Int32.ofInt x2)), .val (.int (Int32.ofInt r1)), .unset] rfl ?_
  refine waloadN C X1 f7_7 rfl rfl ?_
  refine wget C X1 (host := "") (Or.inl (tw_22 hw)) Via.refl e1 Fld_2 f7_8 ?_
  intro T2 X2 e2
  refine wiloadN C X2 f7_11 rfl ?_
  refine wiaload C X2 e2 Arv_4 f7_12 (own_fx _ (by omega)) (i := x2) (own_fc _ (by omega)) (v := (Int32.ofInt l2)) (own_ar_at (by omega) (eL)) ?_
  refine wistore C X2 f7_13 #[.val (.ref a), .val (.int (Int32.ofInt x1)), .val (.int (Int32.ofInt x2)), .val (.int (Int32.ofInt r1)), .val (.int (Int32.ofInt l2))] rfl ?_
  refine waloadN C X2 f7_15 rfl rfl ?_
  refine wget C X2 (host := "") (Or.inl (tw_24 hw)) Via.refl e2 Fld_1 f7_16 ?_
  intro T3 X3 e3
  refine wiloadN C X3 f7_19 rfl ?_
  refine wiloadN C X3 f7_20 rfl ?_
  refine wiastore C X3 e3 Arv_3 f7_21 (own_fx _ (by omega)) x1 (own_fc _ (by omega)) (by rw [own_ar_len]; omega) (own_ar 3 (own_upd RI x1 x2)) (own_ar_set (by omega) rfl) ?_
  intro T4 h4 sl4 w4 X4 e4 W4 V4
  have N4 := Fr.snoc X4 N0 ge_5
  refine waloadN C X4 f7_22 rfl rfl ?_
  refine wget C X4 (host := "") (Or.inl (tw_22 hw)) Via.refl e4 (Fld_2.other W4 (Or.inl ne_a_ri)) f7_23 ?_
  intro T5 X5 e5
  refine wiloadN C X5 f7_26 rfl ?_
  refine wiloadN C X5 f7_27 rfl ?_
  refine wiastore C X5 e5 (Arv_4.other W4 ne_le_ri) f7_28 (own_fx _ (by omega)) x2 (own_fc _ (by omega)) (by rw [own_ar_len]; omega) (own_ar 3 (own_upd LE x2 x1)) (own_ar_set (by omega) rfl) ?_
  intro T6 h6 sl6 w6 X6 e6 W6 V6
  have N6 := Fr.snoc X6 N4 ge_6
  refine waloadN C X6 f7_29 rfl rfl ?_
  have q7 := ((Fld_1.other W4 (Or.inl ne_a_ri)).other W6 (Or.inl ne_a_le))
  refine wget C X6 (host := "") (Or.inl (tw_24 hw)) Via.refl e6 q7 f7_30 ?_
  intro T8 X8 e8
  refine wiload C X8 f7_33 rfl ?_
  refine wiloadN C X8 f7_35 rfl ?_
  refine wiastore C X8 e8 (V4.other W6 (Ne.symm ne_le_ri)) f7_36 (own_fx _ (by omega)) l2 (own_fc _ (by omega)) (by rw [own_ar_len]; omega) (own_ar 3 (own_upd (own_upd RI x1 x2) l2 r1)) (own_ar_set (by omega) rfl) ?_
  intro T9 h9 sl9 w9 X9 e9 W9 V9
  have N9 := Fr.snoc X9 N6 ge_5
  refine waloadN C X9 f7_37 rfl rfl ?_
  have q10 := (((Fld_2.other W4 (Or.inl ne_a_ri)).other W6 (Or.inl ne_a_le)).other W9 (Or.inl ne_a_ri))
  refine wget C X9 (host := "") (Or.inl (tw_22 hw)) Via.refl e9 q10 f7_38 ?_
  intro T11 X11 e11
  refine wiloadN C X11 f7_41 rfl ?_
  refine wiload C X11 f7_42 rfl ?_
  refine wiastore C X11 e11 (V6.other W9 ne_le_ri) f7_44 (own_fx _ (by omega)) r1 (own_fc _ (by omega)) (by rw [own_ar_len]; omega) (own_ar 3 (own_upd (own_upd LE x2 x1) r1 l2)) (own_ar_set (by omega) rfl) ?_
  intro T12 h12 sl12 w12 X12 e12 W12 V12
  have N12 := Fr.snoc X12 N9 ge_6
  refine wret C X12 f7_45 rfl (by decide) (by decide) ?_
  rw [e12]
  have q13 := (((((Keep.refl h0 [ri, le]).wr W4 (Or.inl (List.mem_of_getElem? (i := 0) rfl))).wr W6 (Or.inl (List.mem_of_getElem? (i := 1) rfl))).wr W9 (Or.inl (List.mem_of_getElem? (i := 0) rfl))).wr W12 (Or.inl (List.mem_of_getElem? (i := 1) rfl)))
  exact ⟨rfl, N12, q13, (V9.other W12 (Ne.symm ne_le_ri)), V12⟩
theorem f10_0 : Dec prog_25_method_11_code 0 (.aload_n 0) 1 1 := ⟨by decide +kernel, rfl⟩
theorem f10_1 : Dec prog_25_method_11_code 1 (.getfield 30) 3 4 := ⟨by decide +kernel, rfl⟩
theorem f10_4 : Dec prog_25_method_11_code 4 (.aload_n 0) 1 5 := ⟨by decide +kernel, rfl⟩
theorem f10_5 : Dec prog_25_method_11_code 5 (.getfield 27) 3 8 := ⟨by decide +kernel, rfl⟩
theorem f10_8 : Dec prog_25_method_11_code 8 (.iload_n 1) 1 9 := ⟨by decide +kernel, rfl⟩
theorem f10_9 : Dec prog_25_method_11_code 9 (.iaload) 1 10 := ⟨by decide +kernel, rfl⟩
theorem f10_10 : Dec prog_25_method_11_code 10 (.aload_n 0) 1 11 := ⟨by decide +kernel, rfl⟩
theorem f10_11 : Dec prog_25_method_11_code 11 (.getfield 30) 3 14 := ⟨by decide +kernel, rfl⟩
theorem f10_14 : Dec prog_25_method_11_code 14 (.iload_n 1) 1 15 := ⟨by decide +kernel, rfl⟩
theorem f10_15 : Dec prog_25_method_11_code 15 (.iaload) 1 16 := ⟨by decide +kernel, rfl⟩
theorem f10_16 : Dec prog_25_method_11_code 16 (.iastore) 1 17 := ⟨by decide +kernel, rfl⟩
theorem f10_17 : Dec prog_25_method_11_code 17 (.aload_n 0) 1 18 := ⟨by decide +kernel, rfl⟩
theorem f10_18 : Dec prog_25_method_11_code 18 (.getfield 27) 3 21 := ⟨by decide +kernel, rfl⟩
theorem f10_21 : Dec prog_25_method_11_code 21 (.aload_n 0) 1 22 := ⟨by decide +kernel, rfl⟩
theorem f10_22 : Dec prog_25_method_11_code 22 (.getfield 30) 3 25 := ⟨by decide +kernel, rfl⟩
theorem f10_25 : Dec prog_25_method_11_code 25 (.iload_n 1) 1 26 := ⟨by decide +kernel, rfl⟩
theorem f10_26 : Dec prog_25_method_11_code 26 (.iaload) 1 27 := ⟨by decide +kernel, rfl⟩
theorem f10_27 : Dec prog_25_method_11_code 27 (.aload_n 0) 1 28 := ⟨by decide +kernel, rfl⟩
theorem f10_28 : Dec prog_25_method_11_code 28 (.getfield 27) 3 31 := ⟨by decide +kernel, rfl⟩
theorem f10_31 : Dec prog_25_method_11_code 31 (.iload_n 1) 1 32 := ⟨by decide +kernel, rfl⟩
theorem f10_32 : Dec prog_25_method_11_code 32 (.iaload) 1 33 := ⟨by decide +kernel, rfl⟩
theorem f10_33 : Dec prog_25_method_11_code 33 (.iastore) 1 34 := ⟨by decide +kernel, rfl⟩
theorem f10_34 : Dec prog_25_method_11_code 34 (.aload_n 0) 1 35 := ⟨by decide +kernel, rfl⟩
theorem f10_35 : Dec prog_25_method_11_code 35 (.getfield 27) 3 38 := ⟨by decide +kernel, rfl⟩
theorem f10_38 : Dec prog_25_method_11_code 38 (.iload_n 1) 1 39 := ⟨by decide +kernel, rfl⟩
theorem f10_39 : Dec prog_25_method_11_code 39 (.iload_n 1) 1 40 := ⟨by decide +kernel, rfl⟩
theorem f10_40 : Dec prog_25_method_11_code 40 (.iastore) 1 41 := ⟨by decide +kernel, rfl⟩
theorem f10_41 : Dec prog_25_method_11_code 41 (.aload_n 0) 1 42 := ⟨by decide +kernel, rfl⟩
theorem f10_42 : Dec prog_25_method_11_code 42 (.getfield 30) 3 45 := ⟨by decide +kernel, rfl⟩
theorem f10_45 : Dec prog_25_method_11_code 45 (.iload_n 1) 1 46 := ⟨by decide +kernel, rfl⟩
theorem f10_46 : Dec prog_25_method_11_code 46 (.iload_n 1) 1 47 := ⟨by decide +kernel, rfl⟩
theorem f10_47 : Dec prog_25_method_11_code 47 (.iastore) 1 48 := ⟨by decide +kernel, rfl⟩
theorem f10_48 : Dec prog_25_method_11_code 48 (.return_) 1 49 := ⟨by decide +kernel, rfl⟩
theorem pn_10 : plainFor (⟨"com/example/hornwork/hornwork/FibonacciHeap", "unlink", "(I)V"⟩ : MethodName) = true := plainFor_of_name (show plainName "com/example/hornwork/hornwork/FibonacciHeap" = true by first | (simp [plainName, overriddenIn]; done) | decide +kernel)
theorem ef_10 (m : MethodId) (a : Addr) (x1 : Nat) : entryFrame m #[(.ref a), (.int (Int32.ofInt x1))] 2 = mkF m 0 #[.val (.ref a), .val (.int (Int32.ofInt x1))] [] := by first | (simp [entryFrame, mkF, argsToLocals, Value.category]; done) | rfl
def Q10 (Z : State) (a : Addr) (x1 : Nat) (ri : Addr) (le : Addr) (kri : ClassId) (kle : ClassId) (RI : Nat → Int) (LE : Nat → Int) (r1 : Nat) (l1 : Nat) (h0 : Heap) (n0 : Nat) (v9 : Option Value) (h9 : Heap) (L9 : List Loc) : Prop := v9 = none ∧ Fr n0 L9 ∧ Keep h0 h9 [ri, le] ∧ Arv Z h9 ri kri .int (3 : Int32) (own_ar 3 (own_upd (own_upd RI l1 r1) x1 x1)) (.int (0 : Int32)) ∧ Arv Z h9 le kle .int (3 : Int32) (own_ar 3 (own_upd (own_upd LE r1 l1) x1 x1)) (.int (0 : Int32))
set_option maxRecDepth 65536 in
set_option maxHeartbeats 40000000 in
theorem rm10 (l : Launch) (Z : State) (a0 : Array Value) (hw : ∀ d ∈ tables_1, d.before a0 Z = true) (ws : List Jvm.Cond) (a : Addr) (x1 : Nat) (ri : Addr) (le : Addr) (kri : ClassId) (kle : ClassId) (RI : Nat → Int) (LE : Nat → Int) (r1 : Nat) (l1 : Nat) (h0 : Heap) (n0 : Nat) (Z0 : n0 ≤ h0.size) (Exa_0 : Exa Z h0 a "com/example/hornwork/hornwork/FibonacciHeap") (Fld_1 : Fld Z h0 a "com/example/hornwork/hornwork/FibonacciHeap" "right" "[I" (.ref ri)) (Fld_2 : Fld Z h0 a "com/example/hornwork/hornwork/FibonacciHeap" "left" "[I" (.ref le)) (Arv_3 : Arv Z h0 ri kri .int (3 : Int32) (own_ar 3 RI) (.int (0 : Int32))) (Arv_4 : Arv Z h0 le kle .int (3 : Int32) (own_ar 3 LE) (.int (0 : Int32))) (ge_5 : n0 ≤ ri) (ge_6 : n0 ≤ le) (h_x1 : (x1 < 3)) (h_r1 : (r1 < 3)) (h_l1 : (l1 < 3)) (hd : (x1 ≠ l1)) (eR : (RI x1 = r1)) (eL : (LE x1 = l1)) (ne_a_ri : a ≠ ri) (ne_le_ri : le ≠ ri) (ne_a_le : a ≠ le) :
    MetFree l (⟨"com/example/hornwork/hornwork/FibonacciHeap", "unlink", "(I)V"⟩ : MethodName) (head1 (Jvm.Cond.code (⟨"com/example/hornwork/hornwork/FibonacciHeap", "unlink", "(I)V"⟩ : MethodName) prog_25_method_11_code 2 none :: ws) ({ frames := 0, cells := 0, slots := 0, locals := 0 } : Room)) (fun A9 U9 => A9 = #[(.ref a), (.int (Int32.ofInt x1))] ∧ Z.Warmed39 U9.vm ∧ U9.heap = h0) (fun _ _ _ _ _ => True) (fun _ U9 o9 V9 => ∃ v9 L9, o9 = .returned v9 ∧ (Q10 Z a x1 ri le kri kle RI LE r1 l1 h0 n0) v9 V9.heap L9 ∧ FrameEnd U9 o9 V9 L9 ({ frames := 0, cells := 0, slots := 0, locals := 0 } : Room).cells ({ frames := 0, cells := 0, slots := 0, locals := 0 } : Room).slots) := by
  refine met_of (Q := (Q10 Z a x1 ri le kri kle RI LE r1 l1 h0 n0)) pn_10 ?_
  intro p e s m below meth c T0 C X0 e0
  have N0 := Fr.nil n0
  refine Go.cast (ef_10 m a x1) ?_
  refine waloadN C X0 f10_0 rfl rfl ?_
  refine wget C X0 (host := "") (Or.inl (tw_24 hw)) Via.refl e0 Fld_1 f10_1 ?_
  intro T1 X1 e1
  refine waloadN C X1 f10_4 rfl rfl ?_
  refine wget C X1 (host := "") (Or.inl (tw_22 hw)) Via.refl e1 Fld_2 f10_5 ?_
  intro T2 X2 e2
  refine wiloadN C X2 f10_8 rfl ?_
  refine wiaload C X2 e2 Arv_4 f10_9 (own_fx _ (by omega)) (i := x1) (own_fc _ (by omega)) (v := (Int32.ofInt l1)) (own_ar_at (by omega) (eL)) ?_
  refine waloadN C X2 f10_10 rfl rfl ?_
  refine wget C X2 (host := "") (Or.inl (tw_24 hw)) Via.refl e2 Fld_1 f10_11 ?_
  intro T3 X3 e3
  refine wiloadN C X3 f10_14 rfl ?_
  refine wiaload C X3 e3 Arv_3 f10_15 (own_fx _ (by omega)) (i := x1) (own_fc _ (by omega)) (v := (Int32.ofInt r1)) (own_ar_at (by omega) (eR)) ?_
  refine wiastore C X3 e3 Arv_3 f10_16 (own_fx _ (by omega)) l1 (own_fc _ (by omega)) (by rw [own_ar_len]; omega) (own_ar 3 (own_upd RI l1 r1)) (own_ar_set (by omega) rfl) ?_
  intro T4 h4 sl4 w4 X4 e4 W4 V4
  have N4 := Fr.snoc X4 N0 ge_5
  refine waloadN C X4 f10_17 rfl rfl ?_
  refine wget C X4 (host := "") (Or.inl (tw_22 hw)) Via.refl e4 (Fld_2.other W4 (Or.inl ne_a_ri)) f10_18 ?_
  intro T5 X5 e5
  refine waloadN C X5 f10_21 rfl rfl ?_
  refine wget C X5 (host := "") (Or.inl (tw_24 hw)) Via.refl e5 (Fld_1.other W4 (Or.inl ne_a_ri)) f10_22 ?_
  intro T6 X6 e6
  refine wiloadN C X6 f10_25 rfl ?_
  refine wiaload C X6 e6 V4 f10_26 (own_fx _ (by omega)) (i := x1) (own_fc _ (by omega)) (v := (Int32.ofInt r1)) (own_ar_at (by omega) ((own_un (by omega)).trans (eR))) ?_
  refine waloadN C X6 f10_27 rfl rfl ?_
  refine wget C X6 (host := "") (Or.inl (tw_22 hw)) Via.refl e6 (Fld_2.other W4 (Or.inl ne_a_ri)) f10_28 ?_
  intro T7 X7 e7
  refine wiloadN C X7 f10_31 rfl ?_
  refine wiaload C X7 e7 (Arv_4.other W4 ne_le_ri) f10_32 (own_fx _ (by omega)) (i := x1) (own_fc _ (by omega)) (v := (Int32.ofInt l1)) (own_ar_at (by omega) (eL)) ?_
  refine wiastore C X7 e7 (Arv_4.other W4 ne_le_ri) f10_33 (own_fx _ (by omega)) r1 (own_fc _ (by omega)) (by rw [own_ar_len]; omega) (own_ar 3 (own_upd LE r1 l1)) (own_ar_set (by omega) rfl) ?_
  intro T8 h8 sl8 w8 X8 e8 W8 V8
  have N8 := Fr.snoc X8 N4 ge_6
  refine waloadN C X8 f10_34 rfl rfl ?_
  have q9 := ((Fld_2.other W4 (Or.inl ne_a_ri)).other W8 (Or.inl ne_a_le))
  refine wget C X8 (host := "") (Or.inl (tw_22 hw)) Via.refl e8 q9 f10_35 ?_
  intro T10 X10 e10
  refine wiloadN C X10 f10_38 rfl ?_
  refine wiloadN C X10 f10_39 rfl ?_
  refine wiastore C X10 e10 V8 f10_40 (own_fx _ (by omega)) x1 (own_fc _ (by omega)) (by rw [own_ar_len]; omega) (own_ar 3 (own_upd (own_upd LE r1 l1) x1 x1)) (own_ar_set (by omega) rfl) ?_
  intro T11 h11 sl11 w11 X11 e11 W11 V11
  have N11 := Fr.snoc X11 N8 ge_6
  refine waloadN C X11 f10_41 rfl rfl ?_
  have q12 := (((Fld_1.other W4 (Or.inl ne_a_ri)).other W8 (Or.inl ne_a_le)).other W11 (Or.inl ne_a_le))
  refine wget C X11 (host := "") (Or.inl (tw_24 hw)) Via.refl e11 q12 f10_42 ?_
  intro T13 X13 e13
  refine wiloadN C X13 f10_45 rfl ?_
  refine wiloadN C X13 f10_46 rfl ?_
  have q14 := ((V4.other W8 (Ne.symm ne_le_ri)).other W11 (Ne.symm ne_le_ri))
  refine wiastore C X13 e13 q14 f10_47 (own_fx _ (by omega)) x1 (own_fc _ (by omega)) (by rw [own_ar_len]; omega) (own_ar 3 (own_upd (own_upd RI l1 r1) x1 x1)) (own_ar_set (by omega) rfl) ?_
  intro T15 h15 sl15 w15 X15 e15 W15 V15
  have N15 := Fr.snoc X15 N11 ge_5
  refine wret C X15 f10_48 rfl (by decide) (by decide) ?_
  rw [e15]
  have q16 := (((((Keep.refl h0 [ri, le]).wr W4 (Or.inl (List.mem_of_getElem? (i := 0) rfl))).wr W8 (Or.inl (List.mem_of_getElem? (i := 1) rfl))).wr W11 (Or.inl (List.mem_of_getElem? (i := 1) rfl))).wr W15 (Or.inl (List.mem_of_getElem? (i := 0) rfl)))
  exact ⟨rfl, N15, q16, V15, (V11.other W15 ne_le_ri)⟩
theorem f8_0 : Dec prog_25_method_8_code 0 (.aload_n 0) 1 1 := ⟨by decide +kernel, rfl⟩
theorem f8_1 : Dec prog_25_method_8_code 1 (.getfield 17) 3 4 := ⟨by decide +kernel, rfl⟩
theorem f8_4 : Dec prog_25_method_8_code 4 (.iload_n 1) 1 5 := ⟨by decide +kernel, rfl⟩
theorem f8_5 : Dec prog_25_method_8_code 5 (.daload) 1 6 := ⟨by decide +kernel, rfl⟩
theorem f8_6 : Dec prog_25_method_8_code 6 (.aload_n 0) 1 7 := ⟨by decide +kernel, rfl⟩
theorem f8_7 : Dec prog_25_method_8_code 7 (.getfield 17) 3 10 := ⟨by decide +kernel, rfl⟩
theorem f8_10 : Dec prog_25_method_8_code 10 (.iload_n 2) 1 11 := ⟨by decide +kernel, rfl⟩
theorem f8_11 : Dec prog_25_method_8_code 11 (.daload) 1 12 := ⟨by decide +kernel, rfl⟩
theorem f8_12 : Dec prog_25_method_8_code 12 (.dcmp .g) 1 13 := ⟨by decide +kernel, rfl⟩
theorem f8_13 : DecJ prog_25_method_8_code 13 (.ifCond .lt 24) 24 37 16 := ⟨by decide +kernel, by decide, by decide, rfl⟩
theorem f8_16 : Dec prog_25_method_8_code 16 (.aload_n 0) 1 17 := ⟨by decide +kernel, rfl⟩
theorem f8_17 : Dec prog_25_method_8_code 17 (.getfield 17) 3 20 := ⟨by decide +kernel, rfl⟩
theorem f8_20 : Dec prog_25_method_8_code 20 (.iload_n 1) 1 21 := ⟨by decide +kernel, rfl⟩
theorem f8_21 : Dec prog_25_method_8_code 21 (.daload) 1 22 := ⟨by decide +kernel, rfl⟩
theorem f8_22 : Dec prog_25_method_8_code 22 (.aload_n 0) 1 23 := ⟨by decide +kernel, rfl⟩
theorem f8_23 : Dec prog_25_method_8_code 23 (.getfield 17) 3 26 := ⟨by decide +kernel, rfl⟩
theorem f8_26 : Dec prog_25_method_8_code 26 (.iload_n 2) 1 27 := ⟨by decide +kernel, rfl⟩
theorem f8_27 : Dec prog_25_method_8_code 27 (.daload) 1 28 := ⟨by decide +kernel, rfl⟩
theorem f8_28 : Dec prog_25_method_8_code 28 (.dcmp .l) 1 29 := ⟨by decide +kernel, rfl⟩
theorem f8_29 : DecJ prog_25_method_8_code 29 (.ifCond .ne 12) 12 41 32 := ⟨by decide +kernel, by decide, by decide, rfl⟩
theorem f8_32 : Dec prog_25_method_8_code 32 (.iload_n 1) 1 33 := ⟨by decide +kernel, rfl⟩
theorem f8_33 : Dec prog_25_method_8_code 33 (.iload_n 2) 1 34 := ⟨by decide +kernel, rfl⟩
theorem f8_34 : DecJ prog_25_method_8_code 34 (.if_icmp .ge 7) 7 41 37 := ⟨by decide +kernel, by decide, by decide, rfl⟩
theorem f8_37 : Dec prog_25_method_8_code 37 (.iconst 1) 1 38 := ⟨by decide +kernel, rfl⟩
theorem f8_38 : DecJ prog_25_method_8_code 38 (.goto 4) 4 42 41 := ⟨by decide +kernel, by decide, by decide, rfl⟩
theorem f8_41 : Dec prog_25_method_8_code 41 (.iconst 0) 1 42 := ⟨by decide +kernel, rfl⟩
theorem f8_42 : Dec prog_25_method_8_code 42 (.ireturn) 1 43 := ⟨by decide +kernel, rfl⟩
theorem pn_8 : plainFor (⟨"com/example/hornwork/hornwork/FibonacciHeap", "before", "(II)Z"⟩ : MethodName) = true := plainFor_of_name (show plainName "com/example/hornwork/hornwork/FibonacciHeap" = true by first | (simp [plainName, overriddenIn]; done) | decide +kernel)
theorem ef_8 (m : MethodId) (a : Addr) (x1 : Nat) (x2 : Nat) : entryFrame m #[(.ref a), (.int (Int32.ofInt x1)), (.int (Int32.ofInt x2))] 3 = mkF m 0 #[.val (.ref a), .val (.int (Int32.ofInt x1)), .val (.int (Int32.ofInt x2))] [] := by first | (simp [entryFrame, mkF, argsToLocals, Value.category]; done) | rfl
def Q8 (Z : State) (a : Addr) (x1 : Nat) (x2 : Nat) (ky : Addr) (kky : ClassId) (kf : Nat → UInt64) (K : Nat → Int) (h0 : Heap) (n0 : Nat) (v9 : Option Value) (h9 : Heap) (L9 : List Loc) : Prop := v9 = some (.int (own_bf K x1 x2)) ∧ Fr n0 L9 ∧ h9 = h0
set_option maxRecDepth 65536 in
set_option maxHeartbeats 40000000 in
theorem rm8 (l : Launch) (Z : State) (a0 : Array Value) (hw : ∀ d ∈ tables_1, d.before a0 Z = true) (ws : List Jvm.Cond) (a : Addr) (x1 : Nat) (x2 : Nat) (ky : Addr) (kky : ClassId) (kf : Nat → UInt64) (K : Nat → Int) (h0 : Heap) (n0 : Nat) (Z0 : n0 ≤ h0.size) (Fld_0 : Fld Z h0 a "com/example/hornwork/hornwork/FibonacciHeap" "key" "[D" (.ref ky)) (Arv_1 : Arv Z h0 ky kky .double (3 : Int32) (own_dr 3 kf) (.double (0 : UInt64))) (h_x1 : (x1 < 3)) (h_x2 : (x2 < 3)) (hK : (∀ i, i < 3 → FP.Core.DInt (K i) (kf i))) :
    MetFree l (⟨"com/example/hornwork/hornwork/FibonacciHeap", "before", "(II)Z"⟩ : MethodName) (head1 (Jvm.Cond.code (⟨"com/example/hornwork/hornwork/FibonacciHeap", "before", "(II)Z"⟩ : MethodName) prog_25_method_8_code 3 (some .boolean) :: ws) ({ frames := 0, cells := 0, slots := 0, locals := 0 } : Room)) (fun A9 U9 => A9 = #[(.ref a), (.int (Int32.ofInt x1)), (.int (Int32.ofInt x2))] ∧ Z.Warmed39 U9.vm ∧ U9.heap = h0) (fun _ _ _ _ _ => True) (fun _ U9 o9 V9 => ∃ v9 L9, o9 = .returned v9 ∧ (Q8 Z a x1 x2 ky kky kf K h0 n0) v9 V9.heap L9 ∧ FrameEnd U9 o9 V9 L9 ({ frames := 0, cells := 0, slots := 0, locals := 0 } : Room).cells ({ frames := 0, cells := 0, slots := 0, locals := 0 } : Room).slots) := by
  refine met_of (Q := (Q8 Z a x1 x2 ky kky kf K h0 n0)) pn_8 ?_
  intro p e s m below meth c T0 C X0 e0
  have N0 := Fr.nil n0
  refine Go.cast (ef_8 m a x1 x2) ?_
  refine waloadN C X0 f8_0 rfl rfl ?_
  refine wget C X0 (host := "") (Or.inl (tw_16 hw)) Via.refl e0 Fld_0 f8_1 ?_
  intro T1 X1 e1
  refine wiloadN C X1 f8_4 rfl ?_
  refine wdaload C X1 e1 Arv_1 f8_5 (own_fx _ (by omega)) (i := x1) (own_fc _ (by omega)) (v := (kf x1)) (own_dr_at (by omega) (rfl)) ?_
  refine waloadN C X1 f8_6 rfl rfl ?_
  refine wget C X1 (host := "") (Or.inl (tw_16 hw)) Via.refl e1 Fld_0 f8_7 ?_
  intro T2 X2 e2
  refine wiloadN C X2 f8_10 rfl ?_
  refine wdaload C X2 e2 Arv_1 f8_11 (own_fx _ (by omega)) (i := x2) (own_fc _ (by omega)) (v := (kf x2)) (own_dr_at (by omega) (rfl)) ?_
  refine wdcmp C X2 f8_12 (v := (cmpValue (FP.dcmp (kf x1) (kf x2)) .g)) rfl ?_
  refine wif_lt C X2 f8_13 (fun hc13 => ?_) (fun hc13 => ?_)
  · refine wiconst C X2 f8_37 (1 : Int32) rfl ?_
    refine wgoto C X2 f8_38 ?_
    refine wiretN C X2 (t := .boolean) (by simp) f8_42 rfl (1 : Int32) (by decide) (by decide) (by decide) ?_
    rw [e2]
    exact ⟨congrArg (fun z => some (Value.int z)) (own_bf1 (Or.inl ((own_lt (hK x1 (by omega)) (hK x2 (by omega)) _).mp hc13))), N0, rfl⟩
  · refine waloadN C X2 f8_16 rfl rfl ?_
    refine wget C X2 (host := "") (Or.inl (tw_16 hw)) Via.refl e2 Fld_0 f8_17 ?_
    intro T3 X3 e3
    refine wiloadN C X3 f8_20 rfl ?_
    refine wdaload C X3 e3 Arv_1 f8_21 (own_fx _ (by omega)) (i := x1) (own_fc _ (by omega)) (v := (kf x1)) (own_dr_at (by omega) (rfl)) ?_
    refine waloadN C X3 f8_22 rfl rfl ?_
    refine wget C X3 (host := "") (Or.inl (tw_16 hw)) Via.refl e3 Fld_0 f8_23 ?_
    intro T4 X4 e4
    refine wiloadN C X4 f8_26 rfl ?_
    refine wdaload C X4 e4 Arv_1 f8_27 (own_fx _ (by omega)) (i := x2) (own_fc _ (by omega)) (v := (kf x2)) (own_dr_at (by omega) (rfl)) ?_
    refine wdcmp C X4 f8_28 (v := (cmpValue (FP.dcmp (kf x1) (kf x2)) .l)) rfl ?_
    refine wif_ne C X4 f8_29 (fun hc29 => ?_) (fun hc29 => ?_)
    · refine wiloadN C X4 f8_32 rfl ?_
      refine wiloadN C X4 f8_33 rfl ?_
      refine wicmp_ge C X4 f8_34 (fun hc34 => ?_) (fun hc34 => ?_)
      · refine wiconst C X4 f8_37 (1 : Int32) rfl ?_
        refine wgoto C X4 f8_38 ?_
        refine wiretN C X4 (t := .boolean) (by simp) f8_42 rfl (1 : Int32) (by decide) (by decide) (by decide) ?_
        rw [e4]
        exact ⟨congrArg (fun z => some (Value.int z)) (own_bf1 (Or.inr ⟨(own_eq (hK x1 (by omega)) (hK x2 (by omega)) _).mp hc29, (own_fl _ (by omega) _ (by omega)).mp hc34⟩)), N0, rfl⟩
      · refine wiconst C X4 f8_41 (0 : Int32) rfl ?_
        refine wiretN C X4 (t := .boolean) (by simp) f8_42 rfl (0 : Int32) (by decide) (by decide) (by decide) ?_
        rw [e4]
        exact ⟨congrArg (fun z => some (Value.int z)) (own_bf0 (fun q => by have u1 : ¬ K x1 < K x2 := mt (own_lt (hK x1 (by omega)) (hK x2 (by omega)) _).mpr hc13; have u3 : ¬ x1 < x2 := mt (own_fl _ (by omega) _ (by omega)).mpr hc34; omega)), N0, rfl⟩
    · refine wiconst C X4 f8_41 (0 : Int32) rfl ?_
      refine wiretN C X4 (t := .boolean) (by simp) f8_42 rfl (0 : Int32) (by decide) (by decide) (by decide) ?_
      rw [e4]
      exact ⟨congrArg (fun z => some (Value.int z)) (own_bf0 (fun q => by have u1 : ¬ K x1 < K x2 := mt (own_lt (hK x1 (by omega)) (hK x2 (by omega)) _).mpr hc13; have u2 : ¬ K x1 = K x2 := mt (own_eq (hK x1 (by omega)) (hK x2 (by omega)) _).mpr hc29; omega)), N0, rfl⟩
theorem f13_0 : Dec prog_25_method_15_code 0 (.aload_n 0) 1 1 := ⟨by decide +kernel, rfl⟩
theorem f13_1 : Dec prog_25_method_15_code 1 (.iload_n 1) 1 2 := ⟨by decide +kernel, rfl⟩
theorem f13_2 : Dec prog_25_method_15_code 2 (.invokevirtual 77) 3 5 := ⟨by decide +kernel, rfl⟩
theorem f13_5 : Dec prog_25_method_15_code 5 (.aload_n 0) 1 6 := ⟨by decide +kernel, rfl⟩
theorem f13_6 : Dec prog_25_method_15_code 6 (.getfield 24) 3 9 := ⟨by decide +kernel, rfl⟩
theorem f13_9 : Dec prog_25_method_15_code 9 (.iload_n 2) 1 10 := ⟨by decide +kernel, rfl⟩
theorem f13_10 : Dec prog_25_method_15_code 10 (.iaload) 1 11 := ⟨by decide +kernel, rfl⟩
theorem f13_11 : Dec prog_25_method_15_code 11 (.iconst (-1)) 1 12 := ⟨by decide +kernel, rfl⟩
theorem f13_12 : DecJ prog_25_method_15_code 12 (.if_icmp .ne 13) 13 25 15 := ⟨by decide +kernel, by decide, by decide, rfl⟩
theorem f13_15 : Dec prog_25_method_15_code 15 (.aload_n 0) 1 16 := ⟨by decide +kernel, rfl⟩
theorem f13_16 : Dec prog_25_method_15_code 16 (.getfield 24) 3 19 := ⟨by decide +kernel, rfl⟩
theorem f13_19 : Dec prog_25_method_15_code 19 (.iload_n 2) 1 20 := ⟨by decide +kernel, rfl⟩
theorem f13_20 : Dec prog_25_method_15_code 20 (.iload_n 1) 1 21 := ⟨by decide +kernel, rfl⟩
theorem f13_21 : Dec prog_25_method_15_code 21 (.iastore) 1 22 := ⟨by decide +kernel, rfl⟩
theorem f13_22 : DecJ prog_25_method_15_code 22 (.goto 14) 14 36 25 := ⟨by decide +kernel, by decide, by decide, rfl⟩
theorem f13_36 : Dec prog_25_method_15_code 36 (.aload_n 0) 1 37 := ⟨by decide +kernel, rfl⟩
theorem f13_37 : Dec prog_25_method_15_code 37 (.getfield 21) 3 40 := ⟨by decide +kernel, rfl⟩
theorem f13_40 : Dec prog_25_method_15_code 40 (.iload_n 1) 1 41 := ⟨by decide +kernel, rfl⟩
theorem f13_41 : Dec prog_25_method_15_code 41 (.iload_n 2) 1 42 := ⟨by decide +kernel, rfl⟩
theorem f13_42 : Dec prog_25_method_15_code 42 (.iastore) 1 43 := ⟨by decide +kernel, rfl⟩
theorem f13_43 : Dec prog_25_method_15_code 43 (.aload_n 0) 1 44 := ⟨by decide +kernel, rfl⟩
theorem f13_44 : Dec prog_25_method_15_code 44 (.getfield 33) 3 47 := ⟨by decide +kernel, rfl⟩
theorem f13_47 : Dec prog_25_method_15_code 47 (.iload_n 2) 1 48 := ⟨by decide +kernel, rfl⟩
theorem f13_48 : Dec prog_25_method_15_code 48 (.dup2) 1 49 := ⟨by decide +kernel, rfl⟩
theorem f13_49 : Dec prog_25_method_15_code 49 (.iaload) 1 50 := ⟨by decide +kernel, rfl⟩
theorem f13_50 : Dec prog_25_method_15_code 50 (.iconst 1) 1 51 := ⟨by decide +kernel, rfl⟩
theorem f13_51 : Dec prog_25_method_15_code 51 (.iadd) 1 52 := ⟨by decide +kernel, rfl⟩
theorem f13_52 : Dec prog_25_method_15_code 52 (.iastore) 1 53 := ⟨by decide +kernel, rfl⟩
theorem f13_53 : Dec prog_25_method_15_code 53 (.aload_n 0) 1 54 := ⟨by decide +kernel, rfl⟩
theorem f13_54 : Dec prog_25_method_15_code 54 (.getfield 36) 3 57 := ⟨by decide +kernel, rfl⟩
theorem f13_57 : Dec prog_25_method_15_code 57 (.iload_n 1) 1 58 := ⟨by decide +kernel, rfl⟩
theorem f13_58 : Dec prog_25_method_15_code 58 (.iconst 0) 1 59 := ⟨by decide +kernel, rfl⟩
theorem f13_59 : Dec prog_25_method_15_code 59 (.bastore) 1 60 := ⟨by decide +kernel, rfl⟩
theorem f13_60 : Dec prog_25_method_15_code 60 (.return_) 1 61 := ⟨by decide +kernel, rfl⟩
theorem pn_13 : plainFor (⟨"com/example/hornwork/hornwork/FibonacciHeap", "link", "(II)V"⟩ : MethodName) = true := plainFor_of_name (show plainName "com/example/hornwork/hornwork/FibonacciHeap" = true by first | (simp [plainName, overriddenIn]; done) | decide +kernel)
theorem ef_13 (m : MethodId) (a : Addr) (x1 : Nat) (x2 : Nat) : entryFrame m #[(.ref a), (.int (Int32.ofInt x1)), (.int (Int32.ofInt x2))] 3 = mkF m 0 #[.val (.ref a), .val (.int (Int32.ofInt x1)), .val (.int (Int32.ofInt x2))] [] := by first | (simp [entryFrame, mkF, argsToLocals, Value.category]; done) | rfl
def Q13 (Z : State) (a : Addr) (x1 : Nat) (x2 : Nat) (ri : Addr) (le : Addr) (ch : Addr) (pa : Addr) (de : Addr) (mk : Addr) (kri : ClassId) (kle : ClassId) (kch : ClassId) (kpa : ClassId) (kde : ClassId) (kmk : ClassId) (RI : Nat → Int) (LE : Nat → Int) (CH : Nat → Int) (PA : Nat → Int) (DE : Nat → Int) (MK : Nat → Int) (r1 : Nat) (l1 : Nat) (h0 : Heap) (n0 : Nat) (v9 : Option Value) (h9 : Heap) (L9 : List Loc) : Prop := v9 = none ∧ Fr n0 L9 ∧ Keep h0 h9 [ri, le, ch, pa, de, mk] ∧ Arv Z h9 ri kri .int (3 : Int32) (own_ar 3 (own_upd (own_upd RI l1 r1) x1 x1)) (.int (0 : Int32)) ∧ Arv Z h9 le kle .int (3 : Int32) (own_ar 3 (own_upd (own_upd LE r1 l1) x1 x1)) (.int (0 : Int32)) ∧ Arv Z h9 ch kch .int (3 : Int32) (own_ar 3 (own_upd CH x2 x1)) (.int (0 : Int32)) ∧ Arv Z h9 pa kpa .int (3 : Int32) (own_ar 3 (own_upd PA x1 x2)) (.int (0 : Int32)) ∧ Arv Z h9 de kde .int (3 : Int32) (own_ar 3 (own_upd DE x2 1)) (.int (0 : Int32)) ∧ Arv Z h9 mk kmk .boolean (3 : Int32) (own_ar 3 (own_upd MK x1 0)) (.int (0 : Int32))
set_option maxRecDepth 65536 in
set_option maxHeartbeats 40000000 in
theorem rm13 (l : Launch) (Z : State) (a0 : Array Value) (hw : ∀ d ∈ tables_1, d.before a0 Z = true) (ws : List Jvm.Cond) (a : Addr) (x1 : Nat) (x2 : Nat) (ri : Addr) (le : Addr) (ch : Addr) (pa : Addr) (de : Addr) (mk : Addr) (kri : ClassId) (kle : ClassId) (kch : ClassId) (kpa : ClassId) (kde : ClassId) (kmk : ClassId) (RI : Nat → Int) (LE : Nat → Int) (CH : Nat → Int) (PA : Nat → Int) (DE : Nat → Int) (MK : Nat → Int) (r1 : Nat) (l1 : Nat) (h0 : Heap) (n0 : Nat) (Z0 : n0 ≤ h0.size) (Exa_0 : Exa Z h0 a "com/example/hornwork/hornwork/FibonacciHeap") (Fld_1 : Fld Z h0 a "com/example/hornwork/hornwork/FibonacciHeap" "right" "[I" (.ref ri)) (Fld_2 : Fld Z h0 a "com/example/hornwork/hornwork/FibonacciHeap" "left" "[I" (.ref le)) (Fld_3 : Fld Z h0 a "com/example/hornwork/hornwork/FibonacciHeap" "child" "[I" (.ref ch)) (Fld_4 : Fld Z h0 a "com/example/hornwork/hornwork/FibonacciHeap" "parent" "[I" (.ref pa)) (Fld_5 : Fld Z h0 a "com/example/hornwork/hornwork/FibonacciHeap" "degree" "[I" (.ref de)) (Fld_6 : Fld Z h0 a "com/example/hornwork/hornwork/FibonacciHeap" "marked" "[Z" (.ref mk)) (Arv_7 : Arv Z h0 ri kri .int (3 : Int32) (own_ar 3 RI) (.int (0 : Int32))) (Arv_8 : Arv Z h0 le kle .int (3 : Int32) (own_ar 3 LE) (.int (0 : Int32))) (Arv_9 : Arv Z h0 ch kch .int (3 : Int32) (own_ar 3 CH) (.int (0 : Int32))) (Arv_10 : Arv Z h0 pa kpa .int (3 : Int32) (own_ar 3 PA) (.int (0 : Int32))) (Arv_11 : Arv Z h0 de kde .int (3 : Int32) (own_ar 3 DE) (.int (0 : Int32))) (Arv_12 : Arv Z h0 mk kmk .boolean (3 : Int32) (own_ar 3 MK) (.int (0 : Int32))) (ge_13 : n0 ≤ ri) (ge_14 : n0 ≤ le) (ge_15 : n0 ≤ ch) (ge_16 : n0 ≤ pa) (ge_17 : n0 ≤ de) (ge_18 : n0 ≤ mk) (h_x1 : (x1 < 3)) (h_x2 : (x2 < 3)) (h_r1 : (r1 < 3)) (h_l1 : (l1 < 3)) (hd : (x1 ≠ l1)) (hd2 : (x1 ≠ x2)) (eR : (RI x1 = r1)) (eL : (LE x1 = l1)) (eC : (CH x2 = (-1))) (eD : (DE x2 = 0)) (ne_a_ri : a ≠ ri) (ne_le_ri : le ≠ ri) (ne_a_le : a ≠ le) (ne_ch_le : ch ≠ le) (ne_ch_ri : ch ≠ ri) (ne_a_ch : a ≠ ch) (ne_le_pa : le ≠ pa) (ne_pa_ri : pa ≠ ri) (ne_ch_pa : ch ≠ pa) (ne_a_pa : a ≠ pa) (ne_de_le : de ≠ le) (ne_de_ri : de ≠ ri) (ne_ch_de : ch ≠ de) (ne_de_pa : de ≠ pa) (ne_a_de : a ≠ de) (ne_le_mk : le ≠ mk) (ne_mk_ri : mk ≠ ri) (ne_ch_mk : ch ≠ mk) (ne_mk_pa : mk ≠ pa) (ne_de_mk : de ≠ mk) :
    MetFree l (⟨"com/example/hornwork/hornwork/FibonacciHeap", "link", "(II)V"⟩ : MethodName) (head1 (Jvm.Cond.code (⟨"com/example/hornwork/hornwork/FibonacciHeap", "link", "(II)V"⟩ : MethodName) prog_25_method_15_code 3 none :: ws) ({ frames := 1, cells := 0, slots := 0, locals := 13 } : Room)) (fun A9 U9 => A9 = #[(.ref a), (.int (Int32.ofInt x1)), (.int (Int32.ofInt x2))] ∧ Z.Warmed39 U9.vm ∧ U9.heap = h0) (fun _ _ _ _ _ => True) (fun _ U9 o9 V9 => ∃ v9 L9, o9 = .returned v9 ∧ (Q13 Z a x1 x2 ri le ch pa de mk kri kle kch kpa kde kmk RI LE CH PA DE MK r1 l1 h0 n0) v9 V9.heap L9 ∧ FrameEnd U9 o9 V9 L9 ({ frames := 1, cells := 0, slots := 0, locals := 13 } : Room).cells ({ frames := 1, cells := 0, slots := 0, locals := 13 } : Room).slots) := by
  refine met_of (Q := (Q13 Z a x1 x2 ri le ch pa de mk kri kle kch kpa kde kmk RI LE CH PA DE MK r1 l1 h0 n0)) pn_13 ?_
  intro p e s m below meth c T0 C X0 e0
  have N0 := Fr.nil n0
  refine Go.cast (ef_13 m a x1 x2) ?_
  refine waloadN C X0 f13_0 rfl rfl ?_
  refine wiloadN C X0 f13_1 rfl ?_
  refine wprivateI C X0 (y := (⟨"com/example/hornwork/hornwork/FibonacciHeap", "unlink", "(I)V"⟩ : MethodName)) (tw_66 hw) (tw_67 hw) (tw_2 hw) (tw_68 hw) (tw_69 hw) (tw_3 hw) (by decide) (rm10 l Z a0 hw [] a x1 ri le kri kle RI LE r1 l1 h0 n0 Z0 Exa_0 Fld_1 Fld_2 Arv_7 Arv_8 ge_13 ge_14 (by omega) (by omega) (by omega) (by omega) (eR) (eL) ne_a_ri ne_le_ri ne_a_le) e0 (a := a) Exa_0 f13_2 (argsL := [(.int (Int32.ofInt x1))]) (rest := []) rfl rfl (lenOf pd_0 rfl) rfl (W := 0) (Nat.le_of_eq rfl) (by decide) (by decide) (by decide) (by decide) ?_
  intro v1 T1 L1 X1 q1
  obtain ⟨rfl, Nq1, K1, G1_0, G1_1⟩ := q1
  have N1 := Fr.app N0 Nq1
  show Go p e below s _ _ _ T1 (mkF m 5 #[.val (.ref a), .val (.int (Int32.ofInt x1)), .val (.int (Int32.ofInt x2))] [])
  refine waloadN C X1 f13_5 rfl rfl ?_
  refine wget C X1 (host := "") (Or.inl (tw_20 hw)) Via.refl rfl (Fld_3.keep K1 (ninS ne_a_ri (ninS ne_a_le nin0))) f13_6 ?_
  intro T2 X2 e2
  refine wiloadN C X2 f13_9 rfl ?_
  refine wiaload C X2 e2 (Arv_9.keep K1 (ninS ne_ch_ri (ninS ne_ch_le nin0))) f13_10 (own_fx _ (by omega)) (i := x2) (own_fc _ (by omega)) (v := (-1 : Int32)) (own_vi (own_ar_at (by omega) (eC)) (by decide)) ?_
  refine wiconst C X2 f13_11 (-1 : Int32) rfl ?_
  refine wicmp_ne C X2 f13_12 ?_ (fun q => absurd (by decide : ((-1 : Int32) = (-1 : Int32))) q)
  intro _
  refine waloadN C X2 f13_15 rfl rfl ?_
  refine wget C X2 (host := "") (Or.inl (tw_20 hw)) Via.refl e2 (Fld_3.keep K1 (ninS ne_a_ri (ninS ne_a_le nin0))) f13_16 ?_
  intro T3 X3 e3
  refine wiloadN C X3 f13_19 rfl ?_
  refine wiloadN C X3 f13_20 rfl ?_
  refine wiastore C X3 e3 (Arv_9.keep K1 (ninS ne_ch_ri (ninS ne_ch_le nin0))) f13_21 (own_fx _ (by omega)) x2 (own_fc _ (by omega)) (by rw [own_ar_len]; omega) (own_ar 3 (own_upd CH x2 x1)) (own_ar_set (by omega) rfl) ?_
  intro T4 h4 sl4 w4 X4 e4 W4 V4
  have N4 := Fr.snoc X4 N1 ge_15
  refine wgoto C X4 f13_22 ?_
  refine waloadN C X4 f13_36 rfl rfl ?_
  have q5 := ((Fld_4.keep K1 (ninS ne_a_ri (ninS ne_a_le nin0))).other W4 (Or.inl ne_a_ch))
  refine wget C X4 (host := "") (Or.inl (tw_18 hw)) Via.refl e4 q5 f13_37 ?_
  intro T6 X6 e6
  refine wiloadN C X6 f13_40 rfl ?_
  refine wiloadN C X6 f13_41 rfl ?_
  have q7 := ((Arv_10.keep K1 (ninS ne_pa_ri (ninS (Ne.symm ne_le_pa) nin0))).other W4 (Ne.symm ne_ch_pa))
  refine wiastore C X6 e6 q7 f13_42 (own_fx _ (by omega)) x1 (own_fc _ (by omega)) (by rw [own_ar_len]; omega) (own_ar 3 (own_upd PA x1 x2)) (own_ar_set (by omega) rfl) ?_
  intro T8 h8 sl8 w8 X8 e8 W8 V8
  have N8 := Fr.snoc X8 N4 ge_16
  refine waloadN C X8 f13_43 rfl rfl ?_
  have q9 := (((Fld_5.keep K1 (ninS ne_a_ri (ninS ne_a_le nin0))).other W4 (Or.inl ne_a_ch)).other W8 (Or.inl ne_a_pa))
  refine wget C X8 (host := "") (Or.inl (tw_26 hw)) Via.refl e8 q9 f13_44 ?_
  intro T10 X10 e10
  refine wiloadN C X10 f13_47 rfl ?_
  refine wdup2 C X10 f13_48 rfl rfl ?_
  have q11 := (((Arv_11.keep K1 (ninS ne_de_ri (ninS ne_de_le nin0))).other W4 (Ne.symm ne_ch_de)).other W8 ne_de_pa)
  refine wiaload C X10 e10 q11 f13_49 (own_fx _ (by omega)) (i := x2) (own_fc _ (by omega)) (v := (0 : Int32)) (own_vi (own_ar_at (by omega) (eD)) (by decide)) ?_
  refine wiconst C X10 f13_50 (1 : Int32) rfl ?_
  refine wiadd C X10 f13_51 ?_
  refine own_foldI (z := (1 : Int32)) (by decide) ?_
  refine wiastore C X10 e10 q11 f13_52 (own_fx _ (by omega)) x2 (own_fc _ (by omega)) (by rw [own_ar_len]; omega) (own_ar 3 (own_upd DE x2 1)) (own_ar_set (by omega) (by decide)) ?_
  intro T12 h12 sl12 w12 X12 e12 W12 V12
  have N12 := Fr.snoc X12 N8 ge_17
  refine waloadN C X12 f13_53 rfl rfl ?_
  have q13 := ((((Fld_6.keep K1 (ninS ne_a_ri (ninS ne_a_le nin0))).other W4 (Or.inl ne_a_ch)).other W8 (Or.inl ne_a_pa)).other W12 (Or.inl ne_a_de))
  refine wget C X12 (host := "") (Or.inl (tw_29 hw)) Via.refl e12 q13 f13_54 ?_
  intro T14 X14 e14
  refine wiloadN C X14 f13_57 rfl ?_
  refine wiconst C X14 f13_58 (0 : Int32) rfl ?_
  have q15 := ((((Arv_12.keep K1 (ninS ne_mk_ri (ninS (Ne.symm ne_le_mk) nin0))).other W4 (Ne.symm ne_ch_mk)).other W8 ne_mk_pa).other W12 (Ne.symm ne_de_mk))
  refine wbastoreZ C X14 e14 q15 f13_59 (own_fx _ (by omega)) x1 (own_fc _ (by omega)) (by rw [own_ar_len]; omega) (own_ar 3 (own_upd MK x1 0)) (own_ar_set (by omega) (by decide)) ?_
  intro T16 h16 sl16 w16 X16 e16 W16 V16
  have N16 := Fr.snoc X16 N12 ge_18
  refine wret C X16 f13_60 rfl (by decide) (by decide) ?_
  rw [e16]
  have q17 := ((((((Keep.refl h0 [ri, le, ch, pa, de, mk]).trans K1 (allS (Or.inl (List.mem_of_getElem? (i := 0) rfl)) (allS (Or.inl (List.mem_of_getElem? (i := 1) rfl)) all0))).wr W4 (Or.inl (List.mem_of_getElem? (i := 2) rfl))).wr W8 (Or.inl (List.mem_of_getElem? (i := 3) rfl))).wr W12 (Or.inl (List.mem_of_getElem? (i := 4) rfl))).wr W16 (Or.inl (List.mem_of_getElem? (i := 5) rfl)))
  have q18 := ((((G1_0.other W4 (Ne.symm ne_ch_ri)).other W8 (Ne.symm ne_pa_ri)).other W12 (Ne.symm ne_de_ri)).other W16 (Ne.symm ne_mk_ri))
  have q19 := ((((G1_1.other W4 (Ne.symm ne_ch_le)).other W8 ne_le_pa).other W12 (Ne.symm ne_de_le)).other W16 ne_le_mk)
  have q20 := (((V4.other W8 ne_ch_pa).other W12 ne_ch_de).other W16 ne_ch_mk)
  have q21 := ((V8.other W12 (Ne.symm ne_de_pa)).other W16 (Ne.symm ne_mk_pa))
  exact ⟨rfl, N16, q17, q18, q19, q20, q21, (V12.other W16 ne_de_mk), V16⟩
theorem f6_0 : Dec prog_25_method_9_code 0 (.aload_n 0) 1 1 := ⟨by decide +kernel, rfl⟩
theorem f6_1 : Dec prog_25_method_9_code 1 (.getfield 27) 3 4 := ⟨by decide +kernel, rfl⟩
theorem f6_4 : Dec prog_25_method_9_code 4 (.iload_n 1) 1 5 := ⟨by decide +kernel, rfl⟩
theorem f6_5 : Dec prog_25_method_9_code 5 (.iload_n 1) 1 6 := ⟨by decide +kernel, rfl⟩
theorem f6_6 : Dec prog_25_method_9_code 6 (.iastore) 1 7 := ⟨by decide +kernel, rfl⟩
theorem f6_7 : Dec prog_25_method_9_code 7 (.aload_n 0) 1 8 := ⟨by decide +kernel, rfl⟩
theorem f6_8 : Dec prog_25_method_9_code 8 (.getfield 30) 3 11 := ⟨by decide +kernel, rfl⟩
theorem f6_11 : Dec prog_25_method_9_code 11 (.iload_n 1) 1 12 := ⟨by decide +kernel, rfl⟩
theorem f6_12 : Dec prog_25_method_9_code 12 (.iload_n 1) 1 13 := ⟨by decide +kernel, rfl⟩
theorem f6_13 : Dec prog_25_method_9_code 13 (.iastore) 1 14 := ⟨by decide +kernel, rfl⟩
theorem f6_14 : Dec prog_25_method_9_code 14 (.aload_n 0) 1 15 := ⟨by decide +kernel, rfl⟩
theorem f6_15 : Dec prog_25_method_9_code 15 (.getfield 13) 3 18 := ⟨by decide +kernel, rfl⟩
theorem f6_18 : Dec prog_25_method_9_code 18 (.iconst (-1)) 1 19 := ⟨by decide +kernel, rfl⟩
theorem f6_19 : DecJ prog_25_method_9_code 19 (.if_icmp .ne 11) 11 30 22 := ⟨by decide +kernel, by decide, by decide, rfl⟩
theorem f6_22 : Dec prog_25_method_9_code 22 (.aload_n 0) 1 23 := ⟨by decide +kernel, rfl⟩
theorem f6_23 : Dec prog_25_method_9_code 23 (.iload_n 1) 1 24 := ⟨by decide +kernel, rfl⟩
theorem f6_24 : Dec prog_25_method_9_code 24 (.putfield 13) 3 27 := ⟨by decide +kernel, rfl⟩
theorem f6_27 : DecJ prog_25_method_9_code 27 (.goto 29) 29 56 30 := ⟨by decide +kernel, by decide, by decide, rfl⟩
theorem f6_56 : Dec prog_25_method_9_code 56 (.return_) 1 57 := ⟨by decide +kernel, rfl⟩
theorem pn_6 : plainFor (⟨"com/example/hornwork/hornwork/FibonacciHeap", "addRoot", "(I)V"⟩ : MethodName) = true := plainFor_of_name (show plainName "com/example/hornwork/hornwork/FibonacciHeap" = true by first | (simp [plainName, overriddenIn]; done) | decide +kernel)
theorem ef_6_0 (m : MethodId) (a : Addr) (x1 : Nat) : entryFrame m #[(.ref a), (.int (Int32.ofInt x1))] 2 = mkF m 0 #[.val (.ref a), .val (.int (Int32.ofInt x1))] [] := by first | (simp [entryFrame, mkF, argsToLocals, Value.category]; done) | rfl
def Q6_0 (Z : State) (a : Addr) (x1 : Nat) (ky : Addr) (pa : Addr) (ch : Addr) (le : Addr) (ri : Addr) (de : Addr) (mk : Addr) (co : Addr) (ro : Addr) (rd : Addr) (kri : ClassId) (kle : ClassId) (RI : Nat → Int) (LE : Nat → Int) (h0 : Heap) (n0 : Nat) (v9 : Option Value) (h9 : Heap) (L9 : List Loc) : Prop := v9 = none ∧ Fr n0 L9 ∧ Keep h0 h9 [ri, le, a] ∧ Exa Z h9 a "com/example/hornwork/hornwork/FibonacciHeap" ∧ Fld Z h9 a "com/example/hornwork/hornwork/FibonacciHeap" "key" "[D" (.ref ky) ∧ Fld Z h9 a "com/example/hornwork/hornwork/FibonacciHeap" "parent" "[I" (.ref pa) ∧ Fld Z h9 a "com/example/hornwork/hornwork/FibonacciHeap" "child" "[I" (.ref ch) ∧ Fld Z h9 a "com/example/hornwork/hornwork/FibonacciHeap" "left" "[I" (.ref le) ∧ Fld Z h9 a "com/example/hornwork/hornwork/FibonacciHeap" "right" "[I" (.ref ri) ∧ Fld Z h9 a "com/example/hornwork/hornwork/FibonacciHeap" "degree" "[I" (.ref de) ∧ Fld Z h9 a "com/example/hornwork/hornwork/FibonacciHeap" "marked" "[Z" (.ref mk) ∧ Fld Z h9 a "com/example/hornwork/hornwork/FibonacciHeap" "contained" "[Z" (.ref co) ∧ Fld Z h9 a "com/example/hornwork/hornwork/FibonacciHeap" "roots" "[I" (.ref ro) ∧ Fld Z h9 a "com/example/hornwork/hornwork/FibonacciHeap" "rootOfDegree" "[I" (.ref rd) ∧ Fld Z h9 a "com/example/hornwork/hornwork/FibonacciHeap" "least" "I" (.int (Int32.ofInt x1)) ∧ Arv Z h9 ri kri .int (3 : Int32) (own_ar 3 (own_upd RI x1 x1)) (.int (0 : Int32)) ∧ Arv Z h9 le kle .int (3 : Int32) (own_ar 3 (own_upd LE x1 x1)) (.int (0 : Int32))
set_option maxRecDepth 65536 in
set_option maxHeartbeats 40000000 in
theorem rm6_0 (l : Launch) (Z : State) (a0 : Array Value) (hw : ∀ d ∈ tables_1, d.before a0 Z = true) (ws : List Jvm.Cond) (a : Addr) (x1 : Nat) (ky : Addr) (pa : Addr) (ch : Addr) (le : Addr) (ri : Addr) (de : Addr) (mk : Addr) (co : Addr) (ro : Addr) (rd : Addr) (kri : ClassId) (kle : ClassId) (RI : Nat → Int) (LE : Nat → Int) (h0 : Heap) (n0 : Nat) (Z0 : n0 ≤ h0.size) (Exa_0 : Exa Z h0 a "com/example/hornwork/hornwork/FibonacciHeap") (Fld_1 : Fld Z h0 a "com/example/hornwork/hornwork/FibonacciHeap" "key" "[D" (.ref ky)) (Fld_2 : Fld Z h0 a "com/example/hornwork/hornwork/FibonacciHeap" "parent" "[I" (.ref pa)) (Fld_3 : Fld Z h0 a "com/example/hornwork/hornwork/FibonacciHeap" "child" "[I" (.ref ch)) (Fld_4 : Fld Z h0 a "com/example/hornwork/hornwork/FibonacciHeap" "left" "[I" (.ref le)) (Fld_5 : Fld Z h0 a "com/example/hornwork/hornwork/FibonacciHeap" "right" "[I" (.ref ri)) (Fld_6 : Fld Z h0 a "com/example/hornwork/hornwork/FibonacciHeap" "degree" "[I" (.ref de)) (Fld_7 : Fld Z h0 a "com/example/hornwork/hornwork/FibonacciHeap" "marked" "[Z" (.ref mk)) (Fld_8 : Fld Z h0 a "com/example/hornwork/hornwork/FibonacciHeap" "contained" "[Z" (.ref co)) (Fld_9 : Fld Z h0 a "com/example/hornwork/hornwork/FibonacciHeap" "roots" "[I" (.ref ro)) (Fld_10 : Fld Z h0 a "com/example/hornwork/hornwork/FibonacciHeap" "rootOfDegree" "[I" (.ref rd)) (Fld_11 : Fld Z h0 a "com/example/hornwork/hornwork/FibonacciHeap" "least" "I" (.int (-1 : Int32))) (Arv_12 : Arv Z h0 ri kri .int (3 : Int32) (own_ar 3 RI) (.int (0 : Int32))) (Arv_13 : Arv Z h0 le kle .int (3 : Int32) (own_ar 3 LE) (.int (0 : Int32))) (ge_14 : n0 ≤ a) (ge_15 : n0 ≤ ri) (ge_16 : n0 ≤ le) (h_x1 : (x1 < 3)) (ne_a_le : a ≠ le) (ne_le_ri : le ≠ ri) (ne_a_ri : a ≠ ri) :
    MetFree l (⟨"com/example/hornwork/hornwork/FibonacciHeap", "addRoot", "(I)V"⟩ : MethodName) (head1 (Jvm.Cond.code (⟨"com/example/hornwork/hornwork/FibonacciHeap", "addRoot", "(I)V"⟩ : MethodName) prog_25_method_9_code 2 none :: ws) ({ frames := 0, cells := 0, slots := 0, locals := 0 } : Room)) (fun A9 U9 => A9 = #[(.ref a), (.int (Int32.ofInt x1))] ∧ Z.Warmed39 U9.vm ∧ U9.heap = h0) (fun _ _ _ _ _ => True) (fun _ U9 o9 V9 => ∃ v9 L9, o9 = .returned v9 ∧ (Q6_0 Z a x1 ky pa ch le ri de mk co ro rd kri kle RI LE h0 n0) v9 V9.heap L9 ∧ FrameEnd U9 o9 V9 L9 ({ frames := 0, cells := 0, slots := 0, locals := 0 } : Room).cells ({ frames := 0, cells := 0, slots := 0, locals := 0 } : Room).slots) := by
  refine met_of (Q := (Q6_0 Z a x1 ky pa ch le ri de mk co ro rd kri kle RI LE h0 n0)) pn_6 ?_
  intro p e s m below meth c T0 C X0 e0
  have N0 := Fr.nil n0
  refine Go.cast (ef_6_0 m a x1) ?_
  refine waloadN C X0 f6_0 rfl rfl ?_
  refine wget C X0 (host := "") (Or.inl (tw_22 hw)) Via.refl e0 Fld_4 f6_1 ?_
  intro T1 X1 e1
  refine wiloadN C X1 f6_4 rfl ?_
  refine wiloadN C X1 f6_5 rfl ?_
  refine wiastore C X1 e1 Arv_13 f6_6 (own_fx _ (by omega)) x1 (own_fc _ (by omega)) (by rw [own_ar_len]; omega) (own_ar 3 (own_upd LE x1 x1)) (own_ar_set (by omega) rfl) ?_
  intro T2 h2 sl2 w2 X2 e2 W2 V2
  have N2 := Fr.snoc X2 N0 ge_16
  refine waloadN C X2 f6_7 rfl rfl ?_
  refine wget C X2 (host := "") (Or.inl (tw_24 hw)) Via.refl e2 (Fld_5.other W2 (Or.inl ne_a_le)) f6_8 ?_
  intro T3 X3 e3
  refine wiloadN C X3 f6_11 rfl ?_
  refine wiloadN C X3 f6_12 rfl ?_
  refine wiastore C X3 e3 (Arv_12.other W2 (Ne.symm ne_le_ri)) f6_13 (own_fx _ (by omega)) x1 (own_fc _ (by omega)) (by rw [own_ar_len]; omega) (own_ar 3 (own_upd RI x1 x1)) (own_ar_set (by omega) rfl) ?_
  intro T4 h4 sl4 w4 X4 e4 W4 V4
  have N4 := Fr.snoc X4 N2 ge_15
  refine waloadN C X4 f6_14 rfl rfl ?_
  have q5 := ((Fld_11.other W2 (Or.inl ne_a_le)).other W4 (Or.inl ne_a_ri))
  refine wget C X4 (host := "") (Or.inl (tw_13 hw)) Via.refl e4 q5 f6_15 ?_
  intro T6 X6 e6
  refine wiconst C X6 f6_18 (-1 : Int32) rfl ?_
  refine wicmp_ne C X6 f6_19 ?_ (fun q => absurd (by decide : ((-1 : Int32) = (-1 : Int32))) q)
  intro _
  refine waloadN C X6 f6_22 rfl rfl ?_
  refine wiloadN C X6 f6_23 rfl ?_
  refine wput C X6 (host := "") (Or.inl (tw_13 hw)) Via.refl e6 q5 ((Exa_0.wr W2).wr W4) (Or.inl (tw_14 hw)) (tw_2 hw) (ty := .int) (by decide) rfl rfl f6_24 ?_
  intro T7 h7 X7 e7 W7
  have Fw7 := q5.same W7
  have N7 := Fr.snoc X7 N4 ge_14
  refine wgoto C X7 f6_27 ?_
  refine wret C X7 f6_56 rfl (by decide) (by decide) ?_
  rw [e7]
  have q8 := ((((Keep.refl h0 [ri, le, a]).wr W2 (Or.inl (List.mem_of_getElem? (i := 1) rfl))).wr W4 (Or.inl (List.mem_of_getElem? (i := 0) rfl))).wr W7 (Or.inl (List.mem_of_getElem? (i := 2) rfl)))
  have q9 := (((Fld_1.other W2 (Or.inl ne_a_le)).other W4 (Or.inl ne_a_ri)).other W7 (Or.inr (slot_ne (Or.inr (tw_17 hw)) (Or.inl (tw_14 hw)) (by decide) (t := (.array .double)) (t' := .int) (by decide) (by decide))))
  have q10 := (((Fld_2.other W2 (Or.inl ne_a_le)).other W4 (Or.inl ne_a_ri)).other W7 (Or.inr (slot_ne (Or.inr (tw_19 hw)) (Or.inl (tw_14 hw)) (by decide) (t := (.array .int)) (t' := .int) (by decide) (by decide))))
  have q11 := (((Fld_3.other W2 (Or.inl ne_a_le)).other W4 (Or.inl ne_a_ri)).other W7 (Or.inr (slot_ne (Or.inr (tw_21 hw)) (Or.inl (tw_14 hw)) (by decide) (t := (.array .int)) (t' := .int) (by decide) (by decide))))
  have q12 := (((Fld_4.other W2 (Or.inl ne_a_le)).other W4 (Or.inl ne_a_ri)).other W7 (Or.inr (slot_ne (Or.inr (tw_23 hw)) (Or.inl (tw_14 hw)) (by decide) (t := (.array .int)) (t' := .int) (by decide) (by decide))))
  have q13 := (((Fld_5.other W2 (Or.inl ne_a_le)).other W4 (Or.inl ne_a_ri)).other W7 (Or.inr (slot_ne (Or.inr (tw_25 hw)) (Or.inl (tw_14 hw)) (by decide) (t := (.array .int)) (t' := .int) (by decide) (by decide))))
  have q14 := (((Fld_6.other W2 (Or.inl ne_a_le)).other W4 (Or.inl ne_a_ri)).other W7 (Or.inr (slot_ne (Or.inr (tw_27 hw)) (Or.inl (tw_14 hw)) (by decide) (t := (.array .int)) (t' := .int) (by decide) (by decide))))
  have q15 := (((Fld_7.other W2 (Or.inl ne_a_le)).other W4 (Or.inl ne_a_ri)).other W7 (Or.inr (slot_ne (Or.inr (tw_30 hw)) (Or.inl (tw_14 hw)) (by decide) (t := (.array .boolean)) (t' := .int) (by decide) (by decide))))
  have q16 := (((Fld_8.other W2 (Or.inl ne_a_le)).other W4 (Or.inl ne_a_ri)).other W7 (Or.inr (slot_ne (Or.inr (tw_32 hw)) (Or.inl (tw_14 hw)) (by decide) (t := (.array .boolean)) (t' := .int) (by decide) (by decide))))
  have q17 := (((Fld_9.other W2 (Or.inl ne_a_le)).other W4 (Or.inl ne_a_ri)).other W7 (Or.inr (slot_ne (Or.inr (tw_34 hw)) (Or.inl (tw_14 hw)) (by decide) (t := (.array .int)) (t' := .int) (by decide) (by decide))))
  have q18 := (((Fld_10.other W2 (Or.inl ne_a_le)).other W4 (Or.inl ne_a_ri)).other W7 (Or.inr (slot_ne (Or.inr (tw_12 hw)) (Or.inl (tw_14 hw)) (by decide) (t := (.array .int)) (t' := .int) (by decide) (by decide))))
  exact ⟨rfl, N7, q8, (((Exa_0.wr W2).wr W4).wr W7), q9, q10, q11, q12, q13, q14, q15, q16, q17, q18, Fw7, (V4.other W7 (Ne.symm ne_a_ri)), ((V2.other W4 ne_le_ri).other W7 (Ne.symm ne_a_le))⟩
theorem f6_30 : Dec prog_25_method_9_code 30 (.aload_n 0) 1 31 := ⟨by decide +kernel, rfl⟩
theorem f6_31 : Dec prog_25_method_9_code 31 (.aload_n 0) 1 32 := ⟨by decide +kernel, rfl⟩
theorem f6_32 : Dec prog_25_method_9_code 32 (.getfield 13) 3 35 := ⟨by decide +kernel, rfl⟩
theorem f6_35 : Dec prog_25_method_9_code 35 (.iload_n 1) 1 36 := ⟨by decide +kernel, rfl⟩
theorem f6_36 : Dec prog_25_method_9_code 36 (.invokevirtual 74) 3 39 := ⟨by decide +kernel, rfl⟩
theorem f6_39 : Dec prog_25_method_9_code 39 (.aload_n 0) 1 40 := ⟨by decide +kernel, rfl⟩
theorem f6_40 : Dec prog_25_method_9_code 40 (.iload_n 1) 1 41 := ⟨by decide +kernel, rfl⟩
theorem f6_41 : Dec prog_25_method_9_code 41 (.aload_n 0) 1 42 := ⟨by decide +kernel, rfl⟩
theorem f6_42 : Dec prog_25_method_9_code 42 (.getfield 13) 3 45 := ⟨by decide +kernel, rfl⟩
theorem f6_45 : Dec prog_25_method_9_code 45 (.invokevirtual 63) 3 48 := ⟨by decide +kernel, rfl⟩
theorem f6_48 : DecJ prog_25_method_9_code 48 (.ifCond .eq 8) 8 56 51 := ⟨by decide +kernel, by decide, by decide, rfl⟩
theorem f6_51 : Dec prog_25_method_9_code 51 (.aload_n 0) 1 52 := ⟨by decide +kernel, rfl⟩
theorem f6_52 : Dec prog_25_method_9_code 52 (.iload_n 1) 1 53 := ⟨by decide +kernel, rfl⟩
theorem f6_53 : Dec prog_25_method_9_code 53 (.putfield 13) 3 56 := ⟨by decide +kernel, rfl⟩
theorem ef_6_1 (m : MethodId) (a : Addr) (x1 : Nat) : entryFrame m #[(.ref a), (.int (Int32.ofInt x1))] 2 = mkF m 0 #[.val (.ref a), .val (.int (Int32.ofInt x1))] [] := by first | (simp [entryFrame, mkF, argsToLocals, Value.category]; done) | rfl
def Q6_1 (Z : State) (a : Addr) (x1 : Nat) (ky : Addr) (pa : Addr) (ch : Addr) (le : Addr) (ri : Addr) (de : Addr) (mk : Addr) (co : Addr) (ro : Addr) (rd : Addr) (kri : ClassId) (kle : ClassId) (kky : ClassId) (RI : Nat → Int) (LE : Nat → Int) (kf : Nat → UInt64) (K : Nat → Int) (l0 : Nat) (r1 : Nat) (h0 : Heap) (n0 : Nat) (v9 : Option Value) (h9 : Heap) (L9 : List Loc) : Prop := ∃ (g0 : Nat), v9 = none ∧ Fr n0 L9 ∧ Keep h0 h9 [ri, le, a] ∧ Exa Z h9 a "com/example/hornwork/hornwork/FibonacciHeap" ∧ Fld Z h9 a "com/example/hornwork/hornwork/FibonacciHeap" "key" "[D" (.ref ky) ∧ Fld Z h9 a "com/example/hornwork/hornwork/FibonacciHeap" "parent" "[I" (.ref pa) ∧ Fld Z h9 a "com/example/hornwork/hornwork/FibonacciHeap" "child" "[I" (.ref ch) ∧ Fld Z h9 a "com/example/hornwork/hornwork/FibonacciHeap" "left" "[I" (.ref le) ∧ Fld Z h9 a "com/example/hornwork/hornwork/FibonacciHeap" "right" "[I" (.ref ri) ∧ Fld Z h9 a "com/example/hornwork/hornwork/FibonacciHeap" "degree" "[I" (.ref de) ∧ Fld Z h9 a "com/example/hornwork/hornwork/FibonacciHeap" "marked" "[Z" (.ref mk) ∧ Fld Z h9 a "com/example/hornwork/hornwork/FibonacciHeap" "contained" "[Z" (.ref co) ∧ Fld Z h9 a "com/example/hornwork/hornwork/FibonacciHeap" "roots" "[I" (.ref ro) ∧ Fld Z h9 a "com/example/hornwork/hornwork/FibonacciHeap" "rootOfDegree" "[I" (.ref rd) ∧ Fld Z h9 a "com/example/hornwork/hornwork/FibonacciHeap" "least" "I" (.int (Int32.ofInt g0)) ∧ Arv Z h9 ri kri .int (3 : Int32) (own_ar 3 (own_upd (own_upd (own_upd RI x1 x1) l0 x1) x1 r1)) (.int (0 : Int32)) ∧ Arv Z h9 le kle .int (3 : Int32) (own_ar 3 (own_upd (own_upd (own_upd LE x1 x1) x1 l0) r1 x1)) (.int (0 : Int32)) ∧ ((x1 = g0 ∧ own_bfr K x1 l0) ∨ (l0 = g0 ∧ own_bfr K l0 x1))
set_option maxRecDepth 65536 in
set_option maxHeartbeats 40000000 in
theorem rm6_1 (l : Launch) (Z : State) (a0 : Array Value) (hw : ∀ d ∈ tables_1, d.before a0 Z = true) (ws : List Jvm.Cond) (a : Addr) (x1 : Nat) (ky : Addr) (pa : Addr) (ch : Addr) (le : Addr) (ri : Addr) (de : Addr) (mk : Addr) (co : Addr) (ro : Addr) (rd : Addr) (kri : ClassId) (kle : ClassId) (kky : ClassId) (RI : Nat → Int) (LE : Nat → Int) (kf : Nat → UInt64) (K : Nat → Int) (l0 : Nat) (r1 : Nat) (h0 : Heap) (n0 : Nat) (Z0 : n0 ≤ h0.size) (Exa_0 : Exa Z h0 a "com/example/hornwork/hornwork/FibonacciHeap") (Fld_1 : Fld Z h0 a "com/example/hornwork/hornwork/FibonacciHeap" "key" "[D" (.ref ky)) (Fld_2 : Fld Z h0 a "com/example/hornwork/hornwork/FibonacciHeap" "parent" "[I" (.ref pa)) (Fld_3 : Fld Z h0 a "com/example/hornwork/hornwork/FibonacciHeap" "child" "[I" (.ref ch)) (Fld_4 : Fld Z h0 a "com/example/hornwork/hornwork/FibonacciHeap" "left" "[I" (.ref le)) (Fld_5 : Fld Z h0 a "com/example/hornwork/hornwork/FibonacciHeap" "right" "[I" (.ref ri)) (Fld_6 : Fld Z h0 a "com/example/hornwork/hornwork/FibonacciHeap" "degree" "[I" (.ref de)) (Fld_7 : Fld Z h0 a "com/example/hornwork/hornwork/FibonacciHeap" "marked" "[Z" (.ref mk)) (Fld_8 : Fld Z h0 a "com/example/hornwork/hornwork/FibonacciHeap" "contained" "[Z" (.ref co)) (Fld_9 : Fld Z h0 a "com/example/hornwork/hornwork/FibonacciHeap" "roots" "[I" (.ref ro)) (Fld_10 : Fld Z h0 a "com/example/hornwork/hornwork/FibonacciHeap" "rootOfDegree" "[I" (.ref rd)) (Fld_11 : Fld Z h0 a "com/example/hornwork/hornwork/FibonacciHeap" "least" "I" (.int (Int32.ofInt l0))) (Arv_12 : Arv Z h0 ri kri .int (3 : Int32) (own_ar 3 RI) (.int (0 : Int32))) (Arv_13 : Arv Z h0 le kle .int (3 : Int32) (own_ar 3 LE) (.int (0 : Int32))) (Arv_14 : Arv Z h0 ky kky .double (3 : Int32) (own_dr 3 kf) (.double (0 : UInt64))) (ge_15 : n0 ≤ a) (ge_16 : n0 ≤ ri) (ge_17 : n0 ≤ le) (h_x1 : (x1 < 3)) (h_l0 : (l0 < 3)) (h_r1 : (r1 < 3)) (hd : (x1 ≠ l0)) (hK : (∀ i, i < 3 → FP.Core.DInt (K i) (kf i))) (eR : (RI l0 = r1)) (ne_a_le : a ≠ le) (ne_le_ri : le ≠ ri) (ne_a_ri : a ≠ ri) (ne_ky_le : ky ≠ le) (ne_ky_ri : ky ≠ ri) :
    MetFree l (⟨"com/example/hornwork/hornwork/FibonacciHeap", "addRoot", "(I)V"⟩ : MethodName) (head1 (Jvm.Cond.code (⟨"com/example/hornwork/hornwork/FibonacciHeap", "addRoot", "(I)V"⟩ : MethodName) prog_25_method_9_code 2 none :: ws) ({ frames := 1, cells := 0, slots := 0, locals := 16 } : Room)) (fun A9 U9 => A9 = #[(.ref a), (.int (Int32.ofInt x1))] ∧ Z.Warmed39 U9.vm ∧ U9.heap = h0) (fun _ _ _ _ _ => True) (fun _ U9 o9 V9 => ∃ v9 L9, o9 = .returned v9 ∧ (Q6_1 Z a x1 ky pa ch le ri de mk co ro rd kri kle kky RI LE kf K l0 r1 h0 n0) v9 V9.heap L9 ∧ FrameEnd U9 o9 V9 L9 ({ frames := 1, cells := 0, slots := 0, locals := 16 } : Room).cells ({ frames := 1, cells := 0, slots := 0, locals := 16 } : Room).slots) := by
  refine met_of (Q := (Q6_1 Z a x1 ky pa ch le ri de mk co ro rd kri kle kky RI LE kf K l0 r1 h0 n0)) pn_6 ?_
  intro p e s m below meth c T0 C X0 e0
  have N0 := Fr.nil n0
  refine Go.cast (ef_6_1 m a x1) ?_
  refine waloadN C X0 f6_0 rfl rfl ?_
  refine wget C X0 (host := "") (Or.inl (tw_22 hw)) Via.refl e0 Fld_4 f6_1 ?_
  intro T1 X1 e1
  refine wiloadN C X1 f6_4 rfl ?_
  refine wiloadN C X1 f6_5 rfl ?_
  refine wiastore C X1 e1 Arv_13 f6_6 (own_fx _ (by omega)) x1 (own_fc _ (by omega)) (by rw [own_ar_len]; omega) (own_ar 3 (own_upd LE x1 x1)) (own_ar_set (by omega) rfl) ?_
  intro T2 h2 sl2 w2 X2 e2 W2 V2
  have N2 := Fr.snoc X2 N0 ge_17
  refine waloadN C X2 f6_7 rfl rfl ?_
  refine wget C X2 (host := "") (Or.inl (tw_24 hw)) Via.refl e2 (Fld_5.other W2 (Or.inl ne_a_le)) f6_8 ?_
  intro T3 X3 e3
  refine wiloadN C X3 f6_11 rfl ?_
  refine wiloadN C X3 f6_12 rfl ?_
  refine wiastore C X3 e3 (Arv_12.other W2 (Ne.symm ne_le_ri)) f6_13 (own_fx _ (by omega)) x1 (own_fc _ (by omega)) (by rw [own_ar_len]; omega) (own_ar 3 (own_upd RI x1 x1)) (own_ar_set (by omega) rfl) ?_
  intro T4 h4 sl4 w4 X4 e4 W4 V4
  have N4 := Fr.snoc X4 N2 ge_16
  refine waloadN C X4 f6_14 rfl rfl ?_
  have q5 := ((Fld_11.other W2 (Or.inl ne_a_le)).other W4 (Or.inl ne_a_ri))
  refine wget C X4 (host := "") (Or.inl (tw_13 hw)) Via.refl e4 q5 f6_15 ?_
  intro T6 X6 e6
  refine wiconst C X6 f6_18 (-1 : Int32) rfl ?_
  refine wicmp_ne C X6 f6_19 (fun q => absurd q (own_fm _ (by omega))) ?_
  intro _
  refine waloadN C X6 f6_30 rfl rfl ?_
  refine waloadN C X6 f6_31 rfl rfl ?_
  refine wget C X6 (host := "") (Or.inl (tw_13 hw)) Via.refl e6 q5 f6_32 ?_
  intro T7 X7 e7
  refine wiloadN C X7 f6_35 rfl ?_
  have q9 := ((Fld_5.other W2 (Or.inl ne_a_le)).other W4 (Or.inl ne_a_ri))
  have q10 := ((Fld_4.other W2 (Or.inl ne_a_le)).other W4 (Or.inl ne_a_ri))
  have q11 := (Nat.le_trans (Nat.le_trans Z0 (Nat.le_of_eq W2.size.symm)) (Nat.le_of_eq W4.size.symm))
  refine wprivateI C X7 (y := (⟨"com/example/hornwork/hornwork/FibonacciHeap", "splice", "(II)V"⟩ : MethodName)) (tw_53 hw) (tw_54 hw) (tw_2 hw) (tw_55 hw) (tw_56 hw) (tw_3 hw) (by decide) (rm7 l Z a0 hw [] a l0 x1 ri le kri kle (own_upd RI x1 x1) (own_upd LE x1 x1) r1 x1 h4 n0 q11 ((Exa_0.wr W2).wr W4) q9 q10 V4 (V2.other W4 ne_le_ri) ge_16 ge_17 (by omega) (by omega) (by omega) (by omega) ((own_un (by omega)).trans (eR)) (own_us _ _ _) ne_a_ri ne_le_ri ne_a_le) e7 (a := a) ((Exa_0.wr W2).wr W4) f6_36 (argsL := [(.int (Int32.ofInt l0)), (.int (Int32.ofInt x1))]) (rest := []) rfl rfl (lenOf pd_1 rfl) rfl (W := 0) (Nat.le_of_eq rfl) (by decide) (by decide) (by decide) (by decide) ?_
  intro v8 T8 L8 X8 q8
  obtain ⟨rfl, Nq8, K8, G8_0, G8_1⟩ := q8
  have q12 := (Nat.le_trans (Nat.le_trans (Nat.le_refl h0.size) (Nat.le_of_eq W2.size.symm)) (Nat.le_of_eq W4.size.symm))
  have N8 := Fr.app N4 Nq8
  show Go p e below s _ _ _ T8 (mkF m 39 #[.val (.ref a), .val (.int (Int32.ofInt x1))] [])
  refine waloadN C X8 f6_39 rfl rfl ?_
  refine wiloadN C X8 f6_40 rfl ?_
  refine waloadN C X8 f6_41 rfl rfl ?_
  refine wget C X8 (host := "") (Or.inl (tw_13 hw)) Via.refl rfl (q5.keep K8 (ninS ne_a_ri (ninS ne_a_le nin0))) f6_42 ?_
  intro T13 X13 e13
  have q15 := (((Fld_1.other W2 (Or.inl ne_a_le)).other W4 (Or.inl ne_a_ri)).keep K8 (ninS ne_a_ri (ninS ne_a_le nin0)))
  have q16 := (((Arv_14.other W2 ne_ky_le).other W4 ne_ky_ri).keep K8 (ninS ne_ky_ri (ninS ne_ky_le nin0)))
  refine wprivateI C X13 (y := (⟨"com/example/hornwork/hornwork/FibonacciHeap", "before", "(II)Z"⟩ : MethodName)) (tw_57 hw) (tw_58 hw) (tw_2 hw) (tw_59 hw) (tw_60 hw) (tw_3 hw) (by decide) (rm8 l Z a0 hw [] a x1 l0 ky kky kf K T8.heap n0 (Nat.le_trans q11 K8.1) q15 q16 (by omega) (by omega) hK) e13 (a := a) (((Exa_0.wr W2).wr W4).keep K8) f6_45 (argsL := [(.int (Int32.ofInt x1)), (.int (Int32.ofInt l0))]) (rest := []) rfl rfl (lenOf pd_2 rfl) rfl (W := 0) (Nat.le_of_eq rfl) (by decide) (by decide) (by decide) (by decide) ?_
  intro v14 T14 L14 X14 q14
  obtain ⟨rfl, Nq14, eq14⟩ := q14
  have N14 := Fr.app N8 Nq14
  show Go p e below s _ _ _ T14 (mkF m 48 #[.val (.ref a), .val (.int (Int32.ofInt x1))] [(.int (own_bf K x1 l0))])
  refine wif_eq C X14 f6_48 (fun hc48 => ?_) (fun hc48 => ?_)
  · refine wret C X14 f6_56 rfl (by decide) (by decide) ?_
    rw [eq14]
    have q17 := ((((Keep.refl h0 [ri, le, a]).wr W2 (Or.inl (List.mem_of_getElem? (i := 1) rfl))).wr W4 (Or.inl (List.mem_of_getElem? (i := 0) rfl))).trans K8 (allS (Or.inl (List.mem_of_getElem? (i := 0) rfl)) (allS (Or.inl (List.mem_of_getElem? (i := 1) rfl)) all0)))
    have q18 := (((Fld_2.other W2 (Or.inl ne_a_le)).other W4 (Or.inl ne_a_ri)).keep K8 (ninS ne_a_ri (ninS ne_a_le nin0)))
    have q19 := (((Fld_3.other W2 (Or.inl ne_a_le)).other W4 (Or.inl ne_a_ri)).keep K8 (ninS ne_a_ri (ninS ne_a_le nin0)))
    have q20 := (((Fld_6.other W2 (Or.inl ne_a_le)).other W4 (Or.inl ne_a_ri)).keep K8 (ninS ne_a_ri (ninS ne_a_le nin0)))
    have q21 := (((Fld_7.other W2 (Or.inl ne_a_le)).other W4 (Or.inl ne_a_ri)).keep K8 (ninS ne_a_ri (ninS ne_a_le nin0)))
    have q22 := (((Fld_8.other W2 (Or.inl ne_a_le)).other W4 (Or.inl ne_a_ri)).keep K8 (ninS ne_a_ri (ninS ne_a_le nin0)))
    have q23 := (((Fld_9.other W2 (Or.inl ne_a_le)).other W4 (Or.inl ne_a_ri)).keep K8 (ninS ne_a_ri (ninS ne_a_le nin0)))
    have q24 := (((Fld_10.other W2 (Or.inl ne_a_le)).other W4 (Or.inl ne_a_ri)).keep K8 (ninS ne_a_ri (ninS ne_a_le nin0)))
    exact ⟨l0, rfl, N14, q17, (((Exa_0.wr W2).wr W4).keep K8), q15, q18, q19, (q10.keep K8 (ninS ne_a_ri (ninS ne_a_le nin0))), (q9.keep K8 (ninS ne_a_ri (ninS ne_a_le nin0))), q20, q21, q22, q23, q24, (q5.keep K8 (ninS ne_a_ri (ninS ne_a_le nin0))), G8_0, G8_1, (Or.inr ⟨rfl, own_bft (own_bfn hc48) (by omega)⟩)⟩
  · refine waloadN C X14 f6_51 rfl rfl ?_
    refine wiloadN C X14 f6_52 rfl ?_
    refine wput C X14 (host := "") (Or.inl (tw_13 hw)) Via.refl eq14 (q5.keep K8 (ninS ne_a_ri (ninS ne_a_le nin0))) (((Exa_0.wr W2).wr W4).keep K8) (Or.inl (tw_14 hw)) (tw_2 hw) (ty := .int) (by decide) rfl rfl f6_53 ?_
    intro T25 h25 X25 e25 W25
    have Fw25 := (q5.keep K8 (ninS ne_a_ri (ninS ne_a_le nin0))).same W25
    have N25 := Fr.snoc X25 N14 ge_15
    refine wret C X25 f6_56 rfl (by decide) (by decide) ?_
    rw [e25]
    have q26 := (((((Keep.refl h0 [ri, le, a]).wr W2 (Or.inl (List.mem_of_getElem? (i := 1) rfl))).wr W4 (Or.inl (List.mem_of_getElem? (i := 0) rfl))).trans K8 (allS (Or.inl (List.mem_of_getElem? (i := 0) rfl)) (allS (Or.inl (List.mem_of_getElem? (i := 1) rfl)) all0))).wr W25 (Or.inl (List.mem_of_getElem? (i := 2) rfl)))
    have q27 := (q15.other W25 (Or.inr (slot_ne (Or.inr (tw_17 hw)) (Or.inl (tw_14 hw)) (by decide) (t := (.array .double)) (t' := .int) (by decide) (by decide))))
    have q28 := ((((Fld_2.other W2 (Or.inl ne_a_le)).other W4 (Or.inl ne_a_ri)).keep K8 (ninS ne_a_ri (ninS ne_a_le nin0))).other W25 (Or.inr (slot_ne (Or.inr (tw_19 hw)) (Or.inl (tw_14 hw)) (by decide) (t := (.array .int)) (t' := .int) (by decide) (by decide))))
    have q29 := ((((Fld_3.other W2 (Or.inl ne_a_le)).other W4 (Or.inl ne_a_ri)).keep K8 (ninS ne_a_ri (ninS ne_a_le nin0))).other W25 (Or.inr (slot_ne (Or.inr (tw_21 hw)) (Or.inl (tw_14 hw)) (by decide) (t := (.array .int)) (t' := .int) (by decide) (by decide))))
    have q30 := ((q10.keep K8 (ninS ne_a_ri (ninS ne_a_le nin0))).other W25 (Or.inr (slot_ne (Or.inr (tw_23 hw)) (Or.inl (tw_14 hw)) (by decide) (t := (.array .int)) (t' := .int) (by decide) (by decide))))
    have q31 := ((q9.keep K8 (ninS ne_a_ri (ninS ne_a_le nin0))).other W25 (Or.inr (slot_ne (Or.inr (tw_25 hw)) (Or.inl (tw_14 hw)) (by decide) (t := (.array .int)) (t' := .int) (by decide) (by decide))))
    have q32 := ((((Fld_6.other W2 (Or.inl ne_a_le)).other W4 (Or.inl ne_a_ri)).keep K8 (ninS ne_a_ri (ninS ne_a_le nin0))).other W25 (Or.inr (slot_ne (Or.inr (tw_27 hw)) (Or.inl (tw_14 hw)) (by decide) (t := (.array .int)) (t' := .int) (by decide) (by decide))))
    have q33 := ((((Fld_7.other W2 (Or.inl ne_a_le)).other W4 (Or.inl ne_a_ri)).keep K8 (ninS ne_a_ri (ninS ne_a_le nin0))).other W25 (Or.inr (slot_ne (Or.inr (tw_30 hw)) (Or.inl (tw_14 hw)) (by decide) (t := (.array .boolean)) (t' := .int) (by decide) (by decide))))
    have q34 := ((((Fld_8.other W2 (Or.inl ne_a_le)).other W4 (Or.inl ne_a_ri)).keep K8 (ninS ne_a_ri (ninS ne_a_le nin0))).other W25 (Or.inr (slot_ne (Or.inr (tw_32 hw)) (Or.inl (tw_14 hw)) (by decide) (t := (.array .boolean)) (t' := .int) (by decide) (by decide))))
    have q35 := ((((Fld_9.other W2 (Or.inl ne_a_le)).other W4 (Or.inl ne_a_ri)).keep K8 (ninS ne_a_ri (ninS ne_a_le nin0))).other W25 (Or.inr (slot_ne (Or.inr (tw_34 hw)) (Or.inl (tw_14 hw)) (by decide) (t := (.array .int)) (t' := .int) (by decide) (by decide))))
    have q36 := ((((Fld_10.other W2 (Or.inl ne_a_le)).other W4 (Or.inl ne_a_ri)).keep K8 (ninS ne_a_ri (ninS ne_a_le nin0))).other W25 (Or.inr (slot_ne (Or.inr (tw_12 hw)) (Or.inl (tw_14 hw)) (by decide) (t := (.array .int)) (t' := .int) (by decide) (by decide))))
    exact ⟨x1, rfl, N25, q26, ((((Exa_0.wr W2).wr W4).keep K8).wr W25), q27, q28, q29, q30, q31, q32, q33, q34, q35, q36, Fw25, (G8_0.other W25 (Ne.symm ne_a_ri)), (G8_1.other W25 (Ne.symm ne_a_le)), (Or.inl ⟨rfl, own_bfy hc48⟩)⟩
theorem own_hK {K : Nat → Int} {kf : Nat → UInt64} {x1 : Nat} {kI : Int} {kB : UInt64} (hK : ∀ i, i < 3 → FP.Core.DInt (K i) (kf i)) (hk : FP.Core.DInt kI kB) : ∀ i, i < 3 → FP.Core.DInt (own_upd K x1 kI i) (own_updD kf x1 kB i) := by
  intro i hi
  unfold own_upd own_updD
  split
  · exact hk
  · exact hK i hi
theorem f5_0 : Dec prog_25_method_5_code 0 (.aload_n 0) 1 1 := ⟨by decide +kernel, rfl⟩
theorem f5_1 : Dec prog_25_method_5_code 1 (.getfield 17) 3 4 := ⟨by decide +kernel, rfl⟩
theorem f5_4 : Dec prog_25_method_5_code 4 (.iload_n 1) 1 5 := ⟨by decide +kernel, rfl⟩
theorem f5_5 : Dec prog_25_method_5_code 5 (.dload_n 2) 1 6 := ⟨by decide +kernel, rfl⟩
theorem f5_6 : Dec prog_25_method_5_code 6 (.dastore) 1 7 := ⟨by decide +kernel, rfl⟩
theorem f5_7 : Dec prog_25_method_5_code 7 (.aload_n 0) 1 8 := ⟨by decide +kernel, rfl⟩
theorem f5_8 : Dec prog_25_method_5_code 8 (.getfield 21) 3 11 := ⟨by decide +kernel, rfl⟩
theorem f5_11 : Dec prog_25_method_5_code 11 (.iload_n 1) 1 12 := ⟨by decide +kernel, rfl⟩
theorem f5_12 : Dec prog_25_method_5_code 12 (.iconst (-1)) 1 13 := ⟨by decide +kernel, rfl⟩
theorem f5_13 : Dec prog_25_method_5_code 13 (.iastore) 1 14 := ⟨by decide +kernel, rfl⟩
theorem f5_14 : Dec prog_25_method_5_code 14 (.aload_n 0) 1 15 := ⟨by decide +kernel, rfl⟩
theorem f5_15 : Dec prog_25_method_5_code 15 (.getfield 24) 3 18 := ⟨by decide +kernel, rfl⟩
theorem f5_18 : Dec prog_25_method_5_code 18 (.iload_n 1) 1 19 := ⟨by decide +kernel, rfl⟩
theorem f5_19 : Dec prog_25_method_5_code 19 (.iconst (-1)) 1 20 := ⟨by decide +kernel, rfl⟩
theorem f5_20 : Dec prog_25_method_5_code 20 (.iastore) 1 21 := ⟨by decide +kernel, rfl⟩
theorem f5_21 : Dec prog_25_method_5_code 21 (.aload_n 0) 1 22 := ⟨by decide +kernel, rfl⟩
theorem f5_22 : Dec prog_25_method_5_code 22 (.getfield 33) 3 25 := ⟨by decide +kernel, rfl⟩
theorem f5_25 : Dec prog_25_method_5_code 25 (.iload_n 1) 1 26 := ⟨by decide +kernel, rfl⟩
theorem f5_26 : Dec prog_25_method_5_code 26 (.iconst 0) 1 27 := ⟨by decide +kernel, rfl⟩
theorem f5_27 : Dec prog_25_method_5_code 27 (.iastore) 1 28 := ⟨by decide +kernel, rfl⟩
theorem f5_28 : Dec prog_25_method_5_code 28 (.aload_n 0) 1 29 := ⟨by decide +kernel, rfl⟩
theorem f5_29 : Dec prog_25_method_5_code 29 (.getfield 36) 3 32 := ⟨by decide +kernel, rfl⟩
theorem f5_32 : Dec prog_25_method_5_code 32 (.iload_n 1) 1 33 := ⟨by decide +kernel, rfl⟩
theorem f5_33 : Dec prog_25_method_5_code 33 (.iconst 0) 1 34 := ⟨by decide +kernel, rfl⟩
theorem f5_34 : Dec prog_25_method_5_code 34 (.bastore) 1 35 := ⟨by decide +kernel, rfl⟩
theorem f5_35 : Dec prog_25_method_5_code 35 (.aload_n 0) 1 36 := ⟨by decide +kernel, rfl⟩
theorem f5_36 : Dec prog_25_method_5_code 36 (.getfield 40) 3 39 := ⟨by decide +kernel, rfl⟩
theorem f5_39 : Dec prog_25_method_5_code 39 (.iload_n 1) 1 40 := ⟨by decide +kernel, rfl⟩
theorem f5_40 : Dec prog_25_method_5_code 40 (.iconst 1) 1 41 := ⟨by decide +kernel, rfl⟩
theorem f5_41 : Dec prog_25_method_5_code 41 (.bastore) 1 42 := ⟨by decide +kernel, rfl⟩
theorem f5_42 : Dec prog_25_method_5_code 42 (.aload_n 0) 1 43 := ⟨by decide +kernel, rfl⟩
theorem f5_43 : Dec prog_25_method_5_code 43 (.iload_n 1) 1 44 := ⟨by decide +kernel, rfl⟩
theorem f5_44 : Dec prog_25_method_5_code 44 (.invokevirtual 52) 3 47 := ⟨by decide +kernel, rfl⟩
theorem f5_47 : Dec prog_25_method_5_code 47 (.return_) 1 48 := ⟨by decide +kernel, rfl⟩
theorem pn_5 : plainFor (⟨"com/example/hornwork/hornwork/FibonacciHeap", "insert", "(ID)V"⟩ : MethodName) = true := plainFor_of_name (show plainName "com/example/hornwork/hornwork/FibonacciHeap" = true by first | (simp [plainName, overriddenIn]; done) | decide +kernel)
theorem ef_5_0 (m : MethodId) (a : Addr) (x1 : Nat) (kB : UInt64) : entryFrame m #[(.ref a), (.int (Int32.ofInt x1)), (.double kB)] 4 = mkF m 0 #[.val (.ref a), .val (.int (Int32.ofInt x1)), .val (.double kB), .second] [] := by first | (simp [entryFrame, mkF, argsToLocals, Value.category]; done) | rfl
def Q5_0 (Z : State) (a : Addr) (x1 : Nat) (kB : UInt64) (ky : Addr) (pa : Addr) (ch : Addr) (le : Addr) (ri : Addr) (de : Addr) (mk : Addr) (co : Addr) (ro : Addr) (rd : Addr) (kky : ClassId) (kpa : ClassId) (kch : ClassId) (kde : ClassId) (kmk : ClassId) (kco : ClassId) (kri : ClassId) (kle : ClassId) (kf : Nat → UInt64) (PA : Nat → Int) (CH : Nat → Int) (DE : Nat → Int) (MK : Nat → Int) (CO : Nat → Int) (RI : Nat → Int) (LE : Nat → Int) (h0 : Heap) (n0 : Nat) (v9 : Option Value) (h9 : Heap) (L9 : List Loc) : Prop := v9 = none ∧ Fr n0 L9 ∧ Keep h0 h9 [ky, pa, ch, de, mk, co, ri, le, a] ∧ Exa Z h9 a "com/example/hornwork/hornwork/FibonacciHeap" ∧ Fld Z h9 a "com/example/hornwork/hornwork/FibonacciHeap" "key" "[D" (.ref ky) ∧ Fld Z h9 a "com/example/hornwork/hornwork/FibonacciHeap" "parent" "[I" (.ref pa) ∧ Fld Z h9 a "com/example/hornwork/hornwork/FibonacciHeap" "child" "[I" (.ref ch) ∧ Fld Z h9 a "com/example/hornwork/hornwork/FibonacciHeap" "left" "[I" (.ref le) ∧ Fld Z h9 a "com/example/hornwork/hornwork/FibonacciHeap" "right" "[I" (.ref ri) ∧ Fld Z h9 a "com/example/hornwork/hornwork/FibonacciHeap" "degree" "[I" (.ref de) ∧ Fld Z h9 a "com/example/hornwork/hornwork/FibonacciHeap" "marked" "[Z" (.ref mk) ∧ Fld Z h9 a "com/example/hornwork/hornwork/FibonacciHeap" "contained" "[Z" (.ref co) ∧ Fld Z h9 a "com/example/hornwork/hornwork/FibonacciHeap" "roots" "[I" (.ref ro) ∧ Fld Z h9 a "com/example/hornwork/hornwork/FibonacciHeap" "rootOfDegree" "[I" (.ref rd) ∧ Fld Z h9 a "com/example/hornwork/hornwork/FibonacciHeap" "least" "I" (.int (Int32.ofInt x1)) ∧ Arv Z h9 ky kky .double (3 : Int32) (own_dr 3 (own_updD kf x1 kB)) (.double (0 : UInt64)) ∧ Arv Z h9 pa kpa .int (3 : Int32) (own_ar 3 (own_upd PA x1 (-1))) (.int (0 : Int32)) ∧ Arv Z h9 ch kch .int (3 : Int32) (own_ar 3 (own_upd CH x1 (-1))) (.int (0 : Int32)) ∧ Arv Z h9 de kde .int (3 : Int32) (own_ar 3 (own_upd DE x1 0)) (.int (0 : Int32)) ∧ Arv Z h9 mk kmk .boolean (3 : Int32) (own_ar 3 (own_upd MK x1 0)) (.int (0 : Int32)) ∧ Arv Z h9 co kco .boolean (3 : Int32) (own_ar 3 (own_upd CO x1 1)) (.int (0 : Int32)) ∧ Arv Z h9 ri kri .int (3 : Int32) (own_ar 3 (own_upd RI x1 x1)) (.int (0 : Int32)) ∧ Arv Z h9 le kle .int (3 : Int32) (own_ar 3 (own_upd LE x1 x1)) (.int (0 : Int32))
set_option maxRecDepth 65536 in
set_option maxHeartbeats 40000000 in
theorem rm5_0 (l : Launch) (Z : State) (a0 : Array Value) (hw : ∀ d ∈ tables_1, d.before a0 Z = true) (ws : List Jvm.Cond) (a : Addr) (x1 : Nat) (kB : UInt64) (ky : Addr) (pa : Addr) (ch : Addr) (le : Addr) (ri : Addr) (de : Addr) (mk : Addr) (co : Addr) (ro : Addr) (rd : Addr) (kky : ClassId) (kpa : ClassId) (kch : ClassId) (kde : ClassId) (kmk : ClassId) (kco : ClassId) (kri : ClassId) (kle : ClassId) (kf : Nat → UInt64) (PA : Nat → Int) (CH : Nat → Int) (DE : Nat → Int) (MK : Nat → Int) (CO : Nat → Int) (RI : Nat → Int) (LE : Nat → Int) (h0 : Heap) (n0 : Nat) (Z0 : n0 ≤ h0.size) (Exa_0 : Exa Z h0 a "com/example/hornwork/hornwork/FibonacciHeap") (Fld_1 : Fld Z h0 a "com/example/hornwork/hornwork/FibonacciHeap" "key" "[D" (.ref ky)) (Fld_2 : Fld Z h0 a "com/example/hornwork/hornwork/FibonacciHeap" "parent" "[I" (.ref pa)) (Fld_3 : Fld Z h0 a "com/example/hornwork/hornwork/FibonacciHeap" "child" "[I" (.ref ch)) (Fld_4 : Fld Z h0 a "com/example/hornwork/hornwork/FibonacciHeap" "left" "[I" (.ref le)) (Fld_5 : Fld Z h0 a "com/example/hornwork/hornwork/FibonacciHeap" "right" "[I" (.ref ri)) (Fld_6 : Fld Z h0 a "com/example/hornwork/hornwork/FibonacciHeap" "degree" "[I" (.ref de)) (Fld_7 : Fld Z h0 a "com/example/hornwork/hornwork/FibonacciHeap" "marked" "[Z" (.ref mk)) (Fld_8 : Fld Z h0 a "com/example/hornwork/hornwork/FibonacciHeap" "contained" "[Z" (.ref co)) (Fld_9 : Fld Z h0 a "com/example/hornwork/hornwork/FibonacciHeap" "roots" "[I" (.ref ro)) (Fld_10 : Fld Z h0 a "com/example/hornwork/hornwork/FibonacciHeap" "rootOfDegree" "[I" (.ref rd)) (Fld_11 : Fld Z h0 a "com/example/hornwork/hornwork/FibonacciHeap" "least" "I" (.int (-1 : Int32))) (Arv_12 : Arv Z h0 ky kky .double (3 : Int32) (own_dr 3 kf) (.double (0 : UInt64))) (Arv_13 : Arv Z h0 pa kpa .int (3 : Int32) (own_ar 3 PA) (.int (0 : Int32))) (Arv_14 : Arv Z h0 ch kch .int (3 : Int32) (own_ar 3 CH) (.int (0 : Int32))) (Arv_15 : Arv Z h0 de kde .int (3 : Int32) (own_ar 3 DE) (.int (0 : Int32))) (Arv_16 : Arv Z h0 mk kmk .boolean (3 : Int32) (own_ar 3 MK) (.int (0 : Int32))) (Arv_17 : Arv Z h0 co kco .boolean (3 : Int32) (own_ar 3 CO) (.int (0 : Int32))) (Arv_18 : Arv Z h0 ri kri .int (3 : Int32) (own_ar 3 RI) (.int (0 : Int32))) (Arv_19 : Arv Z h0 le kle .int (3 : Int32) (own_ar 3 LE) (.int (0 : Int32))) (ge_20 : n0 ≤ a) (ge_21 : n0 ≤ ky) (ge_22 : n0 ≤ pa) (ge_23 : n0 ≤ ch) (ge_24 : n0 ≤ de) (ge_25 : n0 ≤ mk) (ge_26 : n0 ≤ co) (ge_27 : n0 ≤ ri) (ge_28 : n0 ≤ le) (h_x1 : (x1 < 3)) (ne_a_ky : a ≠ ky) (ne_ky_pa : ky ≠ pa) (ne_a_pa : a ≠ pa) (ne_ch_ky : ch ≠ ky) (ne_ch_pa : ch ≠ pa) (ne_a_ch : a ≠ ch) (ne_de_ky : de ≠ ky) (ne_de_pa : de ≠ pa) (ne_ch_de : ch ≠ de) (ne_a_de : a ≠ de) (ne_ky_mk : ky ≠ mk) (ne_mk_pa : mk ≠ pa) (ne_ch_mk : ch ≠ mk) (ne_de_mk : de ≠ mk) (ne_a_mk : a ≠ mk) (ne_co_ky : co ≠ ky) (ne_co_pa : co ≠ pa) (ne_ch_co : ch ≠ co) (ne_co_de : co ≠ de) (ne_co_mk : co ≠ mk) (ne_a_co : a ≠ co) (ne_ky_ri : ky ≠ ri) (ne_pa_ri : pa ≠ ri) (ne_ch_ri : ch ≠ ri) (ne_de_ri : de ≠ ri) (ne_mk_ri : mk ≠ ri) (ne_co_ri : co ≠ ri) (ne_ky_le : ky ≠ le) (ne_le_pa : le ≠ pa) (ne_ch_le : ch ≠ le) (ne_de_le : de ≠ le) (ne_le_mk : le ≠ mk) (ne_co_le : co ≠ le) (ne_a_le : a ≠ le) (ne_le_ri : le ≠ ri) (ne_a_ri : a ≠ ri) :
    MetFree l (⟨"com/example/hornwork/hornwork/FibonacciHeap", "insert", "(ID)V"⟩ : MethodName) (head1 (Jvm.Cond.code (⟨"com/example/hornwork/hornwork/FibonacciHeap", "insert", "(ID)V"⟩ : MethodName) prog_25_method_5_code 4 none :: ws) ({ frames := 1, cells := 0, slots := 0, locals := 13 } : Room)) (fun A9 U9 => A9 = #[(.ref a), (.int (Int32.ofInt x1)), (.double kB)] ∧ Z.Warmed39 U9.vm ∧ U9.heap = h0) (fun _ _ _ _ _ => True) (fun _ U9 o9 V9 => ∃ v9 L9, o9 = .returned v9 ∧ (Q5_0 Z a x1 kB ky pa ch le ri de mk co ro rd kky kpa kch kde kmk kco kri kle kf PA CH DE MK CO RI LE h0 n0) v9 V9.heap L9 ∧ FrameEnd U9 o9 V9 L9 ({ frames := 1, cells := 0, slots := 0, locals := 13 } : Room).cells ({ frames := 1, cells := 0, slots := 0, locals := 13 } : Room).slots) := by
  refine met_of (Q := (Q5_0 Z a x1 kB ky pa ch le ri de mk co ro rd kky kpa kch kde kmk kco kri kle kf PA CH DE MK CO RI LE h0 n0)) pn_5 ?_
  intro p e s m below meth c T0 C X0 e0
  have N0 := Fr.nil n0
  refine Go.cast (ef_5_0 m a x1 kB) ?_
  refine waloadN C X0 f5_0 rfl rfl ?_
  refine wget C X0 (host := "") (Or.inl (tw_16 hw)) Via.refl e0 Fld_1 f5_1 ?_
  intro T1 X1 e1
  refine wiloadN C X1 f5_4 rfl ?_
  refine wdloadN C X1 f5_5 rfl ?_
  refine wdastore C X1 e1 Arv_12 f5_6 (own_fx _ (by omega)) x1 (own_fc _ (by omega)) (by rw [own_dr_len]; omega) (own_dr 3 (own_updD kf x1 kB)) (own_dr_set (by omega)) ?_
  intro T2 h2 sl2 w2 X2 e2 W2 V2
  have N2 := Fr.snoc X2 N0 ge_21
  refine waloadN C X2 f5_7 rfl rfl ?_
  refine wget C X2 (host := "") (Or.inl (tw_18 hw)) Via.refl e2 (Fld_2.other W2 (Or.inl ne_a_ky)) f5_8 ?_
  intro T3 X3 e3
  refine wiloadN C X3 f5_11 rfl ?_
  refine wiconst C X3 f5_12 (-1 : Int32) rfl ?_
  refine wiastore C X3 e3 (Arv_13.other W2 (Ne.symm ne_ky_pa)) f5_13 (own_fx _ (by omega)) x1 (own_fc _ (by omega)) (by rw [own_ar_len]; omega) (own_ar 3 (own_upd PA x1 (-1))) (own_ar_set (by omega) (by decide)) ?_
  intro T4 h4 sl4 w4 X4 e4 W4 V4
  have N4 := Fr.snoc X4 N2 ge_22
  refine waloadN C X4 f5_14 rfl rfl ?_
  have q5 := ((Fld_3.other W2 (Or.inl ne_a_ky)).other W4 (Or.inl ne_a_pa))
  refine wget C X4 (host := "") (Or.inl (tw_20 hw)) Via.refl e4 q5 f5_15 ?_
  intro T6 X6 e6
  refine wiloadN C X6 f5_18 rfl ?_
  refine wiconst C X6 f5_19 (-1 : Int32) rfl ?_
  refine wiastore C X6 e6 ((Arv_14.other W2 ne_ch_ky).other W4 ne_ch_pa) f5_20 (own_fx _ (by omega)) x1 (own_fc _ (by omega)) (by rw [own_ar_len]; omega) (own_ar 3 (own_upd CH x1 (-1))) (own_ar_set (by omega) (by decide)) ?_
  intro T7 h7 sl7 w7 X7 e7 W7 V7
  have N7 := Fr.snoc X7 N4 ge_23
  refine waloadN C X7 f5_21 rfl rfl ?_
  have q8 := (((Fld_6.other W2 (Or.inl ne_a_ky)).other W4 (Or.inl ne_a_pa)).other W7 (Or.inl ne_a_ch))
  refine wget C X7 (host := "") (Or.inl (tw_26 hw)) Via.refl e7 q8 f5_22 ?_
  intro T9 X9 e9
  refine wiloadN C X9 f5_25 rfl ?_
  refine wiconst C X9 f5_26 (0 : Int32) rfl ?_
  have q10 := (((Arv_15.other W2 ne_de_ky).other W4 ne_de_pa).other W7 (Ne.symm ne_ch_de))
  refine wiastore C X9 e9 q10 f5_27 (own_fx _ (by omega)) x1 (own_fc _ (by omega)) (by rw [own_ar_len]; omega) (own_ar 3 (own_upd DE x1 0)) (own_ar_set (by omega) (by decide)) ?_
  intro T11 h11 sl11 w11 X11 e11 W11 V11
  have N11 := Fr.snoc X11 N7 ge_24
  refine waloadN C X11 f5_28 rfl rfl ?_
  have q12 := ((((Fld_7.other W2 (Or.inl ne_a_ky)).other W4 (Or.inl ne_a_pa)).other W7 (Or.inl ne_a_ch)).other W11 (Or.inl ne_a_de))
  refine wget C X11 (host := "") (Or.inl (tw_29 hw)) Via.refl e11 q12 f5_29 ?_
  intro T13 X13 e13
  refine wiloadN C X13 f5_32 rfl ?_
  refine wiconst C X13 f5_33 (0 : Int32) rfl ?_
  have q14 := ((((Arv_16.other W2 (Ne.symm ne_ky_mk)).other W4 ne_mk_pa).other W7 (Ne.symm ne_ch_mk)).other W11 (Ne.symm ne_de_mk))
  refine wbastoreZ C X13 e13 q14 f5_34 (own_fx _ (by omega)) x1 (own_fc _ (by omega)) (by rw [own_ar_len]; omega) (own_ar 3 (own_upd MK x1 0)) (own_ar_set (by omega) (by decide)) ?_
  intro T15 h15 sl15 w15 X15 e15 W15 V15
  have N15 := Fr.snoc X15 N11 ge_25
  refine waloadN C X15 f5_35 rfl rfl ?_
  have q16 := (((((Fld_8.other W2 (Or.inl ne_a_ky)).other W4 (Or.inl ne_a_pa)).other W7 (Or.inl ne_a_ch)).other W11 (Or.inl ne_a_de)).other W15 (Or.inl ne_a_mk))
  refine wget C X15 (host := "") (Or.inl (tw_31 hw)) Via.refl e15 q16 f5_36 ?_
  intro T17 X17 e17
  refine wiloadN C X17 f5_39 rfl ?_
  refine wiconst C X17 f5_40 (1 : Int32) rfl ?_
  have q18 := (((((Arv_17.other W2 ne_co_ky).other W4 ne_co_pa).other W7 (Ne.symm ne_ch_co)).other W11 ne_co_de).other W15 ne_co_mk)
  refine wbastoreZ C X17 e17 q18 f5_41 (own_fx _ (by omega)) x1 (own_fc _ (by omega)) (by rw [own_ar_len]; omega) (own_ar 3 (own_upd CO x1 1)) (own_ar_set (by omega) (by decide)) ?_
  intro T19 h19 sl19 w19 X19 e19 W19 V19
  have N19 := Fr.snoc X19 N15 ge_26
  refine waloadN C X19 f5_42 rfl rfl ?_
  refine wiloadN C X19 f5_43 rfl ?_
  have q21 := ((((((Fld_1.other W2 (Or.inl ne_a_ky)).other W4 (Or.inl ne_a_pa)).other W7 (Or.inl ne_a_ch)).other W11 (Or.inl ne_a_de)).other W15 (Or.inl ne_a_mk)).other W19 (Or.inl ne_a_co))
  have q22 := ((((((Fld_2.other W2 (Or.inl ne_a_ky)).other W4 (Or.inl ne_a_pa)).other W7 (Or.inl ne_a_ch)).other W11 (Or.inl ne_a_de)).other W15 (Or.inl ne_a_mk)).other W19 (Or.inl ne_a_co))
  have q23 := ((((q5.other W7 (Or.inl ne_a_ch)).other W11 (Or.inl ne_a_de)).other W15 (Or.inl ne_a_mk)).other W19 (Or.inl ne_a_co))
  have q24 := ((((((Fld_4.other W2 (Or.inl ne_a_ky)).other W4 (Or.inl ne_a_pa)).other W7 (Or.inl ne_a_ch)).other W11 (Or.inl ne_a_de)).other W15 (Or.inl ne_a_mk)).other W19 (Or.inl ne_a_co))
  have q25 := ((((((Fld_5.other W2 (Or.inl ne_a_ky)).other W4 (Or.inl ne_a_pa)).other W7 (Or.inl ne_a_ch)).other W11 (Or.inl ne_a_de)).other W15 (Or.inl ne_a_mk)).other W19 (Or.inl ne_a_co))
  have q26 := (((q8.other W11 (Or.inl ne_a_de)).other W15 (Or.inl ne_a_mk)).other W19 (Or.inl ne_a_co))
  have q27 := ((q12.other W15 (Or.inl ne_a_mk)).other W19 (Or.inl ne_a_co))
  have q28 := ((((((Fld_9.other W2 (Or.inl ne_a_ky)).other W4 (Or.inl ne_a_pa)).other W7 (Or.inl ne_a_ch)).other W11 (Or.inl ne_a_de)).other W15 (Or.inl ne_a_mk)).other W19 (Or.inl ne_a_co))
  have q29 := ((((((Fld_10.other W2 (Or.inl ne_a_ky)).other W4 (Or.inl ne_a_pa)).other W7 (Or.inl ne_a_ch)).other W11 (Or.inl ne_a_de)).other W15 (Or.inl ne_a_mk)).other W19 (Or.inl ne_a_co))
  have q30 := ((((((Fld_11.other W2 (Or.inl ne_a_ky)).other W4 (Or.inl ne_a_pa)).other W7 (Or.inl ne_a_ch)).other W11 (Or.inl ne_a_de)).other W15 (Or.inl ne_a_mk)).other W19 (Or.inl ne_a_co))
  have q31 := ((((((Arv_18.other W2 (Ne.symm ne_ky_ri)).other W4 (Ne.symm ne_pa_ri)).other W7 (Ne.symm ne_ch_ri)).other W11 (Ne.symm ne_de_ri)).other W15 (Ne.symm ne_mk_ri)).other W19 (Ne.symm ne_co_ri))
  have q32 := ((((((Arv_19.other W2 (Ne.symm ne_ky_le)).other W4 ne_le_pa).other W7 (Ne.symm ne_ch_le)).other W11 (Ne.symm ne_de_le)).other W15 ne_le_mk).other W19 (Ne.symm ne_co_le))
  have q33 := (Nat.le_trans (Nat.le_trans (Nat.le_trans (Nat.le_trans (Nat.le_trans (Nat.le_trans Z0 (Nat.le_of_eq W2.size.symm)) (Nat.le_of_eq W4.size.symm)) (Nat.le_of_eq W7.size.symm)) (Nat.le_of_eq W11.size.symm)) (Nat.le_of_eq W15.size.symm)) (Nat.le_of_eq W19.size.symm))
  refine wprivateI C X19 (y := (⟨"com/example/hornwork/hornwork/FibonacciHeap", "addRoot", "(I)V"⟩ : MethodName)) (tw_49 hw) (tw_50 hw) (tw_2 hw) (tw_51 hw) (tw_52 hw) (tw_3 hw) (by decide) (rm6_0 l Z a0 hw [] a x1 ky pa ch le ri de mk co ro rd kri kle RI LE h19 n0 q33 ((((((Exa_0.wr W2).wr W4).wr W7).wr W11).wr W15).wr W19) q21 q22 q23 q24 q25 q26 q27 (q16.other W19 (Or.inl ne_a_co)) q28 q29 q30 q31 q32 ge_20 ge_27 ge_28 (by omega) ne_a_le ne_le_ri ne_a_ri) e19 (a := a) ((((((Exa_0.wr W2).wr W4).wr W7).wr W11).wr W15).wr W19) f5_44 (argsL := [(.int (Int32.ofInt x1))]) (rest := []) rfl rfl (lenOf pd_0 rfl) rfl (W := 0) (Nat.le_of_eq rfl) (by decide) (by decide) (by decide) (by decide) ?_
  intro v20 T20 L20 X20 q20
  obtain ⟨rfl, Nq20, K20, G20_0, G20_1, G20_2, G20_3, G20_4, G20_5, G20_6, G20_7, G20_8, G20_9, G20_10, G20_11, G20_12, G20_13⟩ := q20
  have q34 := (Nat.le_trans (Nat.le_trans (Nat.le_trans (Nat.le_trans (Nat.le_trans (Nat.le_trans (Nat.le_refl h0.size) (Nat.le_of_eq W2.size.symm)) (Nat.le_of_eq W4.size.symm)) (Nat.le_of_eq W7.size.symm)) (Nat.le_of_eq W11.size.symm)) (Nat.le_of_eq W15.size.symm)) (Nat.le_of_eq W19.size.symm))
  have N20 := Fr.app N19 Nq20
  show Go p e below s _ _ _ T20 (mkF m 47 #[.val (.ref a), .val (.int (Int32.ofInt x1)), .val (.double kB), .second] [])
  refine wret C X20 f5_47 rfl (by decide) (by decide) ?_
  have q35 := ((((((((Keep.refl h0 [ky, pa, ch, de, mk, co, ri, le, a]).wr W2 (Or.inl (List.mem_of_getElem? (i := 0) rfl))).wr W4 (Or.inl (List.mem_of_getElem? (i := 1) rfl))).wr W7 (Or.inl (List.mem_of_getElem? (i := 2) rfl))).wr W11 (Or.inl (List.mem_of_getElem? (i := 3) rfl))).wr W15 (Or.inl (List.mem_of_getElem? (i := 4) rfl))).wr W19 (Or.inl (List.mem_of_getElem? (i := 5) rfl))).trans K20 (allS (Or.inl (List.mem_of_getElem? (i := 6) rfl)) (allS (Or.inl (List.mem_of_getElem? (i := 7) rfl)) (allS (Or.inl (List.mem_of_getElem? (i := 8) rfl)) all0))))
  have q36 := ((((((V2.other W4 ne_ky_pa).other W7 (Ne.symm ne_ch_ky)).other W11 (Ne.symm ne_de_ky)).other W15 ne_ky_mk).other W19 (Ne.symm ne_co_ky)).keep K20 (ninS ne_ky_ri (ninS ne_ky_le (ninS (Ne.symm ne_a_ky) nin0))))
  have q37 := (((((V4.other W7 (Ne.symm ne_ch_pa)).other W11 (Ne.symm ne_de_pa)).other W15 (Ne.symm ne_mk_pa)).other W19 (Ne.symm ne_co_pa)).keep K20 (ninS ne_pa_ri (ninS (Ne.symm ne_le_pa) (ninS (Ne.symm ne_a_pa) nin0))))
  have q38 := ((((V7.other W11 ne_ch_de).other W15 ne_ch_mk).other W19 ne_ch_co).keep K20 (ninS ne_ch_ri (ninS ne_ch_le (ninS (Ne.symm ne_a_ch) nin0))))
  have q39 := (((V11.other W15 ne_de_mk).other W19 (Ne.symm ne_co_de)).keep K20 (ninS ne_de_ri (ninS ne_de_le (ninS (Ne.symm ne_a_de) nin0))))
  have q40 := ((V15.other W19 (Ne.symm ne_co_mk)).keep K20 (ninS ne_mk_ri (ninS (Ne.symm ne_le_mk) (ninS (Ne.symm ne_a_mk) nin0))))
  have q41 := (V19.keep K20 (ninS ne_co_ri (ninS ne_co_le (ninS (Ne.symm ne_a_co) nin0))))
  exact ⟨rfl, N20, q35, G20_0, G20_1, G20_2, G20_3, G20_4, G20_5, G20_6, G20_7, G20_8, G20_9, G20_10, G20_11, q36, q37, q38, q39, q40, q41, G20_12, G20_13⟩
theorem ef_5_1 (m : MethodId) (a : Addr) (x1 : Nat) (kB : UInt64) : entryFrame m #[(.ref a), (.int (Int32.ofInt x1)), (.double kB)] 4 = mkF m 0 #[.val (.ref a), .val (.int (Int32.ofInt x1)), .val (.double kB), .second] [] := by first | (simp [entryFrame, mkF, argsToLocals, Value.category]; done) | rfl
def Q5_1 (Z : State) (a : Addr) (x1 : Nat) (kB : UInt64) (ky : Addr) (pa : Addr) (ch : Addr) (le : Addr) (ri : Addr) (de : Addr) (mk : Addr) (co : Addr) (ro : Addr) (rd : Addr) (kky : ClassId) (kpa : ClassId) (kch : ClassId) (kde : ClassId) (kmk : ClassId) (kco : ClassId) (kri : ClassId) (kle : ClassId) (kf : Nat → UInt64) (PA : Nat → Int) (CH : Nat → Int) (DE : Nat → Int) (MK : Nat → Int) (CO : Nat → Int) (RI : Nat → Int) (LE : Nat → Int) (K : Nat → Int) (kI : Int) (l0 : Nat) (r1 : Nat) (h0 : Heap) (n0 : Nat) (v9 : Option Value) (h9 : Heap) (L9 : List Loc) : Prop := ∃ (g0 : Nat), v9 = none ∧ Fr n0 L9 ∧ Keep h0 h9 [ky, pa, ch, de, mk, co, ri, le, a] ∧ Exa Z h9 a "com/example/hornwork/hornwork/FibonacciHeap" ∧ Fld Z h9 a "com/example/hornwork/hornwork/FibonacciHeap" "key" "[D" (.ref ky) ∧ Fld Z h9 a "com/example/hornwork/hornwork/FibonacciHeap" "parent" "[I" (.ref pa) ∧ Fld Z h9 a "com/example/hornwork/hornwork/FibonacciHeap" "child" "[I" (.ref ch) ∧ Fld Z h9 a "com/example/hornwork/hornwork/FibonacciHeap" "left" "[I" (.ref le) ∧ Fld Z h9 a "com/example/hornwork/hornwork/FibonacciHeap" "right" "[I" (.ref ri) ∧ Fld Z h9 a "com/example/hornwork/hornwork/FibonacciHeap" "degree" "[I" (.ref de) ∧ Fld Z h9 a "com/example/hornwork/hornwork/FibonacciHeap" "marked" "[Z" (.ref mk) ∧ Fld Z h9 a "com/example/hornwork/hornwork/FibonacciHeap" "contained" "[Z" (.ref co) ∧ Fld Z h9 a "com/example/hornwork/hornwork/FibonacciHeap" "roots" "[I" (.ref ro) ∧ Fld Z h9 a "com/example/hornwork/hornwork/FibonacciHeap" "rootOfDegree" "[I" (.ref rd) ∧ Fld Z h9 a "com/example/hornwork/hornwork/FibonacciHeap" "least" "I" (.int (Int32.ofInt g0)) ∧ Arv Z h9 ky kky .double (3 : Int32) (own_dr 3 (own_updD kf x1 kB)) (.double (0 : UInt64)) ∧ Arv Z h9 pa kpa .int (3 : Int32) (own_ar 3 (own_upd PA x1 (-1))) (.int (0 : Int32)) ∧ Arv Z h9 ch kch .int (3 : Int32) (own_ar 3 (own_upd CH x1 (-1))) (.int (0 : Int32)) ∧ Arv Z h9 de kde .int (3 : Int32) (own_ar 3 (own_upd DE x1 0)) (.int (0 : Int32)) ∧ Arv Z h9 mk kmk .boolean (3 : Int32) (own_ar 3 (own_upd MK x1 0)) (.int (0 : Int32)) ∧ Arv Z h9 co kco .boolean (3 : Int32) (own_ar 3 (own_upd CO x1 1)) (.int (0 : Int32)) ∧ Arv Z h9 ri kri .int (3 : Int32) (own_ar 3 (own_upd (own_upd (own_upd RI x1 x1) l0 x1) x1 r1)) (.int (0 : Int32)) ∧ Arv Z h9 le kle .int (3 : Int32) (own_ar 3 (own_upd (own_upd (own_upd LE x1 x1) x1 l0) r1 x1)) (.int (0 : Int32)) ∧ ((x1 = g0 ∧ own_bfr (own_upd K x1 kI) x1 l0) ∨ (l0 = g0 ∧ own_bfr (own_upd K x1 kI) l0 x1))
set_option maxRecDepth 65536 in
set_option maxHeartbeats 40000000 in
theorem rm5_1 (l : Launch) (Z : State) (a0 : Array Value) (hw : ∀ d ∈ tables_1, d.before a0 Z = true) (ws : List Jvm.Cond) (a : Addr) (x1 : Nat) (kB : UInt64) (ky : Addr) (pa : Addr) (ch : Addr) (le : Addr) (ri : Addr) (de : Addr) (mk : Addr) (co : Addr) (ro : Addr) (rd : Addr) (kky : ClassId) (kpa : ClassId) (kch : ClassId) (kde : ClassId) (kmk : ClassId) (kco : ClassId) (kri : ClassId) (kle : ClassId) (kf : Nat → UInt64) (PA : Nat → Int) (CH : Nat → Int) (DE : Nat → Int) (MK : Nat → Int) (CO : Nat → Int) (RI : Nat → Int) (LE : Nat → Int) (K : Nat → Int) (kI : Int) (l0 : Nat) (r1 : Nat) (h0 : Heap) (n0 : Nat) (Z0 : n0 ≤ h0.size) (Exa_0 : Exa Z h0 a "com/example/hornwork/hornwork/FibonacciHeap") (Fld_1 : Fld Z h0 a "com/example/hornwork/hornwork/FibonacciHeap" "key" "[D" (.ref ky)) (Fld_2 : Fld Z h0 a "com/example/hornwork/hornwork/FibonacciHeap" "parent" "[I" (.ref pa)) (Fld_3 : Fld Z h0 a "com/example/hornwork/hornwork/FibonacciHeap" "child" "[I" (.ref ch)) (Fld_4 : Fld Z h0 a "com/example/hornwork/hornwork/FibonacciHeap" "left" "[I" (.ref le)) (Fld_5 : Fld Z h0 a "com/example/hornwork/hornwork/FibonacciHeap" "right" "[I" (.ref ri)) (Fld_6 : Fld Z h0 a "com/example/hornwork/hornwork/FibonacciHeap" "degree" "[I" (.ref de)) (Fld_7 : Fld Z h0 a "com/example/hornwork/hornwork/FibonacciHeap" "marked" "[Z" (.ref mk)) (Fld_8 : Fld Z h0 a "com/example/hornwork/hornwork/FibonacciHeap" "contained" "[Z" (.ref co)) (Fld_9 : Fld Z h0 a "com/example/hornwork/hornwork/FibonacciHeap" "roots" "[I" (.ref ro)) (Fld_10 : Fld Z h0 a "com/example/hornwork/hornwork/FibonacciHeap" "rootOfDegree" "[I" (.ref rd)) (Fld_11 : Fld Z h0 a "com/example/hornwork/hornwork/FibonacciHeap" "least" "I" (.int (Int32.ofInt l0))) (Arv_12 : Arv Z h0 ky kky .double (3 : Int32) (own_dr 3 kf) (.double (0 : UInt64))) (Arv_13 : Arv Z h0 pa kpa .int (3 : Int32) (own_ar 3 PA) (.int (0 : Int32))) (Arv_14 : Arv Z h0 ch kch .int (3 : Int32) (own_ar 3 CH) (.int (0 : Int32))) (Arv_15 : Arv Z h0 de kde .int (3 : Int32) (own_ar 3 DE) (.int (0 : Int32))) (Arv_16 : Arv Z h0 mk kmk .boolean (3 : Int32) (own_ar 3 MK) (.int (0 : Int32))) (Arv_17 : Arv Z h0 co kco .boolean (3 : Int32) (own_ar 3 CO) (.int (0 : Int32))) (Arv_18 : Arv Z h0 ri kri .int (3 : Int32) (own_ar 3 RI) (.int (0 : Int32))) (Arv_19 : Arv Z h0 le kle .int (3 : Int32) (own_ar 3 LE) (.int (0 : Int32))) (ge_20 : n0 ≤ a) (ge_21 : n0 ≤ ky) (ge_22 : n0 ≤ pa) (ge_23 : n0 ≤ ch) (ge_24 : n0 ≤ de) (ge_25 : n0 ≤ mk) (ge_26 : n0 ≤ co) (ge_27 : n0 ≤ ri) (ge_28 : n0 ≤ le) (h_x1 : (x1 < 3)) (h_l0 : (l0 < 3)) (h_r1 : (r1 < 3)) (hd : (x1 ≠ l0)) (hK : (∀ i, i < 3 → FP.Core.DInt (K i) (kf i))) (hk : (FP.Core.DInt kI kB)) (eR : (RI l0 = r1)) (ne_a_ky : a ≠ ky) (ne_ky_pa : ky ≠ pa) (ne_a_pa : a ≠ pa) (ne_ch_ky : ch ≠ ky) (ne_ch_pa : ch ≠ pa) (ne_a_ch : a ≠ ch) (ne_de_ky : de ≠ ky) (ne_de_pa : de ≠ pa) (ne_ch_de : ch ≠ de) (ne_a_de : a ≠ de) (ne_ky_mk : ky ≠ mk) (ne_mk_pa : mk ≠ pa) (ne_ch_mk : ch ≠ mk) (ne_de_mk : de ≠ mk) (ne_a_mk : a ≠ mk) (ne_co_ky : co ≠ ky) (ne_co_pa : co ≠ pa) (ne_ch_co : ch ≠ co) (ne_co_de : co ≠ de) (ne_co_mk : co ≠ mk) (ne_a_co : a ≠ co) (ne_ky_ri : ky ≠ ri) (ne_pa_ri : pa ≠ ri) (ne_ch_ri : ch ≠ ri) (ne_de_ri : de ≠ ri) (ne_mk_ri : mk ≠ ri) (ne_co_ri : co ≠ ri) (ne_ky_le : ky ≠ le) (ne_le_pa : le ≠ pa) (ne_ch_le : ch ≠ le) (ne_de_le : de ≠ le) (ne_le_mk : le ≠ mk) (ne_co_le : co ≠ le) (ne_a_le : a ≠ le) (ne_le_ri : le ≠ ri) (ne_a_ri : a ≠ ri) :
    MetFree l (⟨"com/example/hornwork/hornwork/FibonacciHeap", "insert", "(ID)V"⟩ : MethodName) (head1 (Jvm.Cond.code (⟨"com/example/hornwork/hornwork/FibonacciHeap", "insert", "(ID)V"⟩ : MethodName) prog_25_method_5_code 4 none :: ws) ({ frames := 2, cells := 0, slots := 0, locals := 29 } : Room)) (fun A9 U9 => A9 = #[(.ref a), (.int (Int32.ofInt x1)), (.double kB)] ∧ Z.Warmed39 U9.vm ∧ U9.heap = h0) (fun _ _ _ _ _ => True) (fun _ U9 o9 V9 => ∃ v9 L9, o9 = .returned v9 ∧ (Q5_1 Z a x1 kB ky pa ch le ri de mk co ro rd kky kpa kch kde kmk kco kri kle kf PA CH DE MK CO RI LE K kI l0 r1 h0 n0) v9 V9.heap L9 ∧ FrameEnd U9 o9 V9 L9 ({ frames := 2, cells := 0, slots := 0, locals := 29 } : Room).cells ({ frames := 2, cells := 0, slots := 0, locals := 29 } : Room).slots) := by
  refine met_of (Q := (Q5_1 Z a x1 kB ky pa ch le ri de mk co ro rd kky kpa kch kde kmk kco kri kle kf PA CH DE MK CO RI LE K kI l0 r1 h0 n0)) pn_5 ?_
  intro p e s m below meth c T0 C X0 e0
  have N0 := Fr.nil n0
  refine Go.cast (ef_5_1 m a x1 kB) ?_
  refine waloadN C X0 f5_0 rfl rfl ?_
  refine wget C X0 (host := "") (Or.inl (tw_16 hw)) Via.refl e0 Fld_1 f5_1 ?_
  intro T1 X1 e1
  refine wiloadN C X1 f5_4 rfl ?_
  refine wdloadN C X1 f5_5 rfl ?_
  refine wdastore C X1 e1 Arv_12 f5_6 (own_fx _ (by omega)) x1 (own_fc _ (by omega)) (by rw [own_dr_len]; omega) (own_dr 3 (own_updD kf x1 kB)) (own_dr_set (by omega)) ?_
  intro T2 h2 sl2 w2 X2 e2 W2 V2
  have N2 := Fr.snoc X2 N0 ge_21
  refine waloadN C X2 f5_7 rfl rfl ?_
  refine wget C X2 (host := "") (Or.inl (tw_18 hw)) Via.refl e2 (Fld_2.other W2 (Or.inl ne_a_ky)) f5_8 ?_
  intro T3 X3 e3
  refine wiloadN C X3 f5_11 rfl ?_
  refine wiconst C X3 f5_12 (-1 : Int32) rfl ?_
  refine wiastore C X3 e3 (Arv_13.other W2 (Ne.symm ne_ky_pa)) f5_13 (own_fx _ (by omega)) x1 (own_fc _ (by omega)) (by rw [own_ar_len]; omega) (own_ar 3 (own_upd PA x1 (-1))) (own_ar_set (by omega) (by decide)) ?_
  intro T4 h4 sl4 w4 X4 e4 W4 V4
  have N4 := Fr.snoc X4 N2 ge_22
  refine waloadN C X4 f5_14 rfl rfl ?_
  have q5 := ((Fld_3.other W2 (Or.inl ne_a_ky)).other W4 (Or.inl ne_a_pa))
  refine wget C X4 (host := "") (Or.inl (tw_20 hw)) Via.refl e4 q5 f5_15 ?_
  intro T6 X6 e6
  refine wiloadN C X6 f5_18 rfl ?_
  refine wiconst C X6 f5_19 (-1 : Int32) rfl ?_
  refine wiastore C X6 e6 ((Arv_14.other W2 ne_ch_ky).other W4 ne_ch_pa) f5_20 (own_fx _ (by omega)) x1 (own_fc _ (by omega)) (by rw [own_ar_len]; omega) (own_ar 3 (own_upd CH x1 (-1))) (own_ar_set (by omega) (by decide)) ?_
  intro T7 h7 sl7 w7 X7 e7 W7 V7
  have N7 := Fr.snoc X7 N4 ge_23
  refine waloadN C X7 f5_21 rfl rfl ?_
  have q8 := (((Fld_6.other W2 (Or.inl ne_a_ky)).other W4 (Or.inl ne_a_pa)).other W7 (Or.inl ne_a_ch))
  refine wget C X7 (host := "") (Or.inl (tw_26 hw)) Via.refl e7 q8 f5_22 ?_
  intro T9 X9 e9
  refine wiloadN C X9 f5_25 rfl ?_
  refine wiconst C X9 f5_26 (0 : Int32) rfl ?_
  have q10 := (((Arv_15.other W2 ne_de_ky).other W4 ne_de_pa).other W7 (Ne.symm ne_ch_de))
  refine wiastore C X9 e9 q10 f5_27 (own_fx _ (by omega)) x1 (own_fc _ (by omega)) (by rw [own_ar_len]; omega) (own_ar 3 (own_upd DE x1 0)) (own_ar_set (by omega) (by decide)) ?_
  intro T11 h11 sl11 w11 X11 e11 W11 V11
  have N11 := Fr.snoc X11 N7 ge_24
  refine waloadN C X11 f5_28 rfl rfl ?_
  have q12 := ((((Fld_7.other W2 (Or.inl ne_a_ky)).other W4 (Or.inl ne_a_pa)).other W7 (Or.inl ne_a_ch)).other W11 (Or.inl ne_a_de))
  refine wget C X11 (host := "") (Or.inl (tw_29 hw)) Via.refl e11 q12 f5_29 ?_
  intro T13 X13 e13
  refine wiloadN C X13 f5_32 rfl ?_
  refine wiconst C X13 f5_33 (0 : Int32) rfl ?_
  have q14 := ((((Arv_16.other W2 (Ne.symm ne_ky_mk)).other W4 ne_mk_pa).other W7 (Ne.symm ne_ch_mk)).other W11 (Ne.symm ne_de_mk))
  refine wbastoreZ C X13 e13 q14 f5_34 (own_fx _ (by omega)) x1 (own_fc _ (by omega)) (by rw [own_ar_len]; omega) (own_ar 3 (own_upd MK x1 0)) (own_ar_set (by omega) (by decide)) ?_
  intro T15 h15 sl15 w15 X15 e15 W15 V15
  have N15 := Fr.snoc X15 N11 ge_25
  refine waloadN C X15 f5_35 rfl rfl ?_
  have q16 := (((((Fld_8.other W2 (Or.inl ne_a_ky)).other W4 (Or.inl ne_a_pa)).other W7 (Or.inl ne_a_ch)).other W11 (Or.inl ne_a_de)).other W15 (Or.inl ne_a_mk))
  refine wget C X15 (host := "") (Or.inl (tw_31 hw)) Via.refl e15 q16 f5_36 ?_
  intro T17 X17 e17
  refine wiloadN C X17 f5_39 rfl ?_
  refine wiconst C X17 f5_40 (1 : Int32) rfl ?_
  have q18 := (((((Arv_17.other W2 ne_co_ky).other W4 ne_co_pa).other W7 (Ne.symm ne_ch_co)).other W11 ne_co_de).other W15 ne_co_mk)
  refine wbastoreZ C X17 e17 q18 f5_41 (own_fx _ (by omega)) x1 (own_fc _ (by omega)) (by rw [own_ar_len]; omega) (own_ar 3 (own_upd CO x1 1)) (own_ar_set (by omega) (by decide)) ?_
  intro T19 h19 sl19 w19 X19 e19 W19 V19
  have N19 := Fr.snoc X19 N15 ge_26
  refine waloadN C X19 f5_42 rfl rfl ?_
  refine wiloadN C X19 f5_43 rfl ?_
  have q21 := ((((((Fld_1.other W2 (Or.inl ne_a_ky)).other W4 (Or.inl ne_a_pa)).other W7 (Or.inl ne_a_ch)).other W11 (Or.inl ne_a_de)).other W15 (Or.inl ne_a_mk)).other W19 (Or.inl ne_a_co))
  have q22 := ((((((Fld_2.other W2 (Or.inl ne_a_ky)).other W4 (Or.inl ne_a_pa)).other W7 (Or.inl ne_a_ch)).other W11 (Or.inl ne_a_de)).other W15 (Or.inl ne_a_mk)).other W19 (Or.inl ne_a_co))
  have q23 := ((((q5.other W7 (Or.inl ne_a_ch)).other W11 (Or.inl ne_a_de)).other W15 (Or.inl ne_a_mk)).other W19 (Or.inl ne_a_co))
  have q24 := ((((((Fld_4.other W2 (Or.inl ne_a_ky)).other W4 (Or.inl ne_a_pa)).other W7 (Or.inl ne_a_ch)).other W11 (Or.inl ne_a_de)).other W15 (Or.inl ne_a_mk)).other W19 (Or.inl ne_a_co))
  have q25 := ((((((Fld_5.other W2 (Or.inl ne_a_ky)).other W4 (Or.inl ne_a_pa)).other W7 (Or.inl ne_a_ch)).other W11 (Or.inl ne_a_de)).other W15 (Or.inl ne_a_mk)).other W19 (Or.inl ne_a_co))
  have q26 := (((q8.other W11 (Or.inl ne_a_de)).other W15 (Or.inl ne_a_mk)).other W19 (Or.inl ne_a_co))
  have q27 := ((q12.other W15 (Or.inl ne_a_mk)).other W19 (Or.inl ne_a_co))
  have q28 := ((((((Fld_9.other W2 (Or.inl ne_a_ky)).other W4 (Or.inl ne_a_pa)).other W7 (Or.inl ne_a_ch)).other W11 (Or.inl ne_a_de)).other W15 (Or.inl ne_a_mk)).other W19 (Or.inl ne_a_co))
  have q29 := ((((((Fld_10.other W2 (Or.inl ne_a_ky)).other W4 (Or.inl ne_a_pa)).other W7 (Or.inl ne_a_ch)).other W11 (Or.inl ne_a_de)).other W15 (Or.inl ne_a_mk)).other W19 (Or.inl ne_a_co))
  have q30 := ((((((Fld_11.other W2 (Or.inl ne_a_ky)).other W4 (Or.inl ne_a_pa)).other W7 (Or.inl ne_a_ch)).other W11 (Or.inl ne_a_de)).other W15 (Or.inl ne_a_mk)).other W19 (Or.inl ne_a_co))
  have q31 := ((((((Arv_18.other W2 (Ne.symm ne_ky_ri)).other W4 (Ne.symm ne_pa_ri)).other W7 (Ne.symm ne_ch_ri)).other W11 (Ne.symm ne_de_ri)).other W15 (Ne.symm ne_mk_ri)).other W19 (Ne.symm ne_co_ri))
  have q32 := ((((((Arv_19.other W2 (Ne.symm ne_ky_le)).other W4 ne_le_pa).other W7 (Ne.symm ne_ch_le)).other W11 (Ne.symm ne_de_le)).other W15 ne_le_mk).other W19 (Ne.symm ne_co_le))
  have q33 := (((((V2.other W4 ne_ky_pa).other W7 (Ne.symm ne_ch_ky)).other W11 (Ne.symm ne_de_ky)).other W15 ne_ky_mk).other W19 (Ne.symm ne_co_ky))
  have q34 := (Nat.le_trans (Nat.le_trans (Nat.le_trans (Nat.le_trans (Nat.le_trans (Nat.le_trans Z0 (Nat.le_of_eq W2.size.symm)) (Nat.le_of_eq W4.size.symm)) (Nat.le_of_eq W7.size.symm)) (Nat.le_of_eq W11.size.symm)) (Nat.le_of_eq W15.size.symm)) (Nat.le_of_eq W19.size.symm))
  refine wprivateI C X19 (y := (⟨"com/example/hornwork/hornwork/FibonacciHeap", "addRoot", "(I)V"⟩ : MethodName)) (tw_49 hw) (tw_50 hw) (tw_2 hw) (tw_51 hw) (tw_52 hw) (tw_3 hw) (by decide) (rm6_1 l Z a0 hw [] a x1 ky pa ch le ri de mk co ro rd kri kle kky RI LE (own_updD kf x1 kB) (own_upd K x1 kI) l0 r1 h19 n0 q34 ((((((Exa_0.wr W2).wr W4).wr W7).wr W11).wr W15).wr W19) q21 q22 q23 q24 q25 q26 q27 (q16.other W19 (Or.inl ne_a_co)) q28 q29 q30 q31 q32 q33 ge_20 ge_27 ge_28 (by omega) (by omega) (by omega) (by omega) (own_hK hK hk) (eR) ne_a_le ne_le_ri ne_a_ri ne_ky_le ne_ky_ri) e19 (a := a) ((((((Exa_0.wr W2).wr W4).wr W7).wr W11).wr W15).wr W19) f5_44 (argsL := [(.int (Int32.ofInt x1))]) (rest := []) rfl rfl (lenOf pd_0 rfl) rfl (W := 0) (Nat.le_of_eq rfl) (by decide) (by decide) (by decide) (by decide) ?_
  intro v20 T20 L20 X20 q20
  obtain ⟨g0_20, rfl, Nq20, K20, G20_0, G20_1, G20_2, G20_3, G20_4, G20_5, G20_6, G20_7, G20_8, G20_9, G20_10, G20_11, G20_12, G20_13, G20_14⟩ := q20
  have q35 := (Nat.le_trans (Nat.le_trans (Nat.le_trans (Nat.le_trans (Nat.le_trans (Nat.le_trans (Nat.le_refl h0.size) (Nat.le_of_eq W2.size.symm)) (Nat.le_of_eq W4.size.symm)) (Nat.le_of_eq W7.size.symm)) (Nat.le_of_eq W11.size.symm)) (Nat.le_of_eq W15.size.symm)) (Nat.le_of_eq W19.size.symm))
  have N20 := Fr.app N19 Nq20
  show Go p e below s _ _ _ T20 (mkF m 47 #[.val (.ref a), .val (.int (Int32.ofInt x1)), .val (.double kB), .second] [])
  refine wret C X20 f5_47 rfl (by decide) (by decide) ?_
  have q36 := ((((((((Keep.refl h0 [ky, pa, ch, de, mk, co, ri, le, a]).wr W2 (Or.inl (List.mem_of_getElem? (i := 0) rfl))).wr W4 (Or.inl (List.mem_of_getElem? (i := 1) rfl))).wr W7 (Or.inl (List.mem_of_getElem? (i := 2) rfl))).wr W11 (Or.inl (List.mem_of_getElem? (i := 3) rfl))).wr W15 (Or.inl (List.mem_of_getElem? (i := 4) rfl))).wr W19 (Or.inl (List.mem_of_getElem? (i := 5) rfl))).trans K20 (allS (Or.inl (List.mem_of_getElem? (i := 6) rfl)) (allS (Or.inl (List.mem_of_getElem? (i := 7) rfl)) (allS (Or.inl (List.mem_of_getElem? (i := 8) rfl)) all0))))
  have q37 := (q33.keep K20 (ninS ne_ky_ri (ninS ne_ky_le (ninS (Ne.symm ne_a_ky) nin0))))
  have q38 := (((((V4.other W7 (Ne.symm ne_ch_pa)).other W11 (Ne.symm ne_de_pa)).other W15 (Ne.symm ne_mk_pa)).other W19 (Ne.symm ne_co_pa)).keep K20 (ninS ne_pa_ri (ninS (Ne.symm ne_le_pa) (ninS (Ne.symm ne_a_pa) nin0))))
  have q39 := ((((V7.other W11 ne_ch_de).other W15 ne_ch_mk).other W19 ne_ch_co).keep K20 (ninS ne_ch_ri (ninS ne_ch_le (ninS (Ne.symm ne_a_ch) nin0))))
  have q40 := (((V11.other W15 ne_de_mk).other W19 (Ne.symm ne_co_de)).keep K20 (ninS ne_de_ri (ninS ne_de_le (ninS (Ne.symm ne_a_de) nin0))))
  have q41 := ((V15.other W19 (Ne.symm ne_co_mk)).keep K20 (ninS ne_mk_ri (ninS (Ne.symm ne_le_mk) (ninS (Ne.symm ne_a_mk) nin0))))
  have q42 := (V19.keep K20 (ninS ne_co_ri (ninS ne_co_le (ninS (Ne.symm ne_a_co) nin0))))
  exact ⟨g0_20, rfl, N20, q36, G20_0, G20_1, G20_2, G20_3, G20_4, G20_5, G20_6, G20_7, G20_8, G20_9, G20_10, G20_11, q37, q38, q39, q40, q41, q42, G20_12, G20_13, G20_14⟩
theorem f11_0 : Dec prog_25_method_14_code 0 (.iconst 0) 1 1 := ⟨by decide +kernel, rfl⟩
theorem f11_1 : Dec prog_25_method_14_code 1 (.istore_n 2) 1 2 := ⟨by decide +kernel, rfl⟩
theorem f11_2 : Dec prog_25_method_14_code 2 (.iload_n 1) 1 3 := ⟨by decide +kernel, rfl⟩
theorem f11_3 : Dec prog_25_method_14_code 3 (.istore_n 3) 1 4 := ⟨by decide +kernel, rfl⟩
theorem f11_4 : Dec prog_25_method_14_code 4 (.aload_n 0) 1 5 := ⟨by decide +kernel, rfl⟩
theorem f11_5 : Dec prog_25_method_14_code 5 (.getfield 43) 3 8 := ⟨by decide +kernel, rfl⟩
theorem f11_8 : Dec prog_25_method_14_code 8 (.iload_n 2) 1 9 := ⟨by decide +kernel, rfl⟩
theorem f11_9 : Dec prog_25_method_14_code 9 (.iinc 2 1) 3 12 := ⟨by decide +kernel, rfl⟩
theorem f11_12 : Dec prog_25_method_14_code 12 (.iload_n 3) 1 13 := ⟨by decide +kernel, rfl⟩
theorem f11_13 : Dec prog_25_method_14_code 13 (.iastore) 1 14 := ⟨by decide +kernel, rfl⟩
theorem f11_14 : Dec prog_25_method_14_code 14 (.aload_n 0) 1 15 := ⟨by decide +kernel, rfl⟩
theorem f11_15 : Dec prog_25_method_14_code 15 (.getfield 30) 3 18 := ⟨by decide +kernel, rfl⟩
theorem f11_18 : Dec prog_25_method_14_code 18 (.iload_n 3) 1 19 := ⟨by decide +kernel, rfl⟩
theorem f11_19 : Dec prog_25_method_14_code 19 (.iaload) 1 20 := ⟨by decide +kernel, rfl⟩
theorem f11_20 : Dec prog_25_method_14_code 20 (.istore_n 3) 1 21 := ⟨by decide +kernel, rfl⟩
theorem f11_21 : Dec prog_25_method_14_code 21 (.iload_n 3) 1 22 := ⟨by decide +kernel, rfl⟩
theorem f11_22 : Dec prog_25_method_14_code 22 (.iload_n 1) 1 23 := ⟨by decide +kernel, rfl⟩
theorem f11_23 : DecJ prog_25_method_14_code 23 (.if_icmp .ne (-19)) (-19) 4 26 := ⟨by decide +kernel, by decide, by decide, rfl⟩
theorem f11_26 : Dec prog_25_method_14_code 26 (.iconst 0) 1 27 := ⟨by decide +kernel, rfl⟩
theorem f11_27 : Dec prog_25_method_14_code 27 (.istore 4) 2 29 := ⟨by decide +kernel, rfl⟩
theorem f11_29 : Dec prog_25_method_14_code 29 (.iconst 0) 1 30 := ⟨by decide +kernel, rfl⟩
theorem f11_30 : Dec prog_25_method_14_code 30 (.istore 5) 2 32 := ⟨by decide +kernel, rfl⟩
theorem f11_32 : Dec prog_25_method_14_code 32 (.iload 5) 2 34 := ⟨by decide +kernel, rfl⟩
theorem f11_34 : Dec prog_25_method_14_code 34 (.iload_n 2) 1 35 := ⟨by decide +kernel, rfl⟩
theorem f11_35 : DecJ prog_25_method_14_code 35 (.if_icmp .ge 110) 110 145 38 := ⟨by decide +kernel, by decide, by decide, rfl⟩
theorem f11_38 : Dec prog_25_method_14_code 38 (.aload_n 0) 1 39 := ⟨by decide +kernel, rfl⟩
theorem f11_39 : Dec prog_25_method_14_code 39 (.getfield 43) 3 42 := ⟨by decide +kernel, rfl⟩
theorem f11_42 : Dec prog_25_method_14_code 42 (.iload 5) 2 44 := ⟨by decide +kernel, rfl⟩
theorem f11_44 : Dec prog_25_method_14_code 44 (.iaload) 1 45 := ⟨by decide +kernel, rfl⟩
theorem f11_45 : Dec prog_25_method_14_code 45 (.istore 6) 2 47 := ⟨by decide +kernel, rfl⟩
theorem f11_47 : Dec prog_25_method_14_code 47 (.aload_n 0) 1 48 := ⟨by decide +kernel, rfl⟩
theorem f11_48 : Dec prog_25_method_14_code 48 (.getfield 33) 3 51 := ⟨by decide +kernel, rfl⟩
theorem f11_51 : Dec prog_25_method_14_code 51 (.iload 6) 2 53 := ⟨by decide +kernel, rfl⟩
theorem f11_53 : Dec prog_25_method_14_code 53 (.iaload) 1 54 := ⟨by decide +kernel, rfl⟩
theorem f11_54 : Dec prog_25_method_14_code 54 (.istore 7) 2 56 := ⟨by decide +kernel, rfl⟩
theorem f11_56 : Dec prog_25_method_14_code 56 (.aload_n 0) 1 57 := ⟨by decide +kernel, rfl⟩
theorem f11_57 : Dec prog_25_method_14_code 57 (.getfield 9) 3 60 := ⟨by decide +kernel, rfl⟩
theorem f11_60 : Dec prog_25_method_14_code 60 (.iload 7) 2 62 := ⟨by decide +kernel, rfl⟩
theorem f11_62 : Dec prog_25_method_14_code 62 (.iaload) 1 63 := ⟨by decide +kernel, rfl⟩
theorem f11_63 : Dec prog_25_method_14_code 63 (.iconst (-1)) 1 64 := ⟨by decide +kernel, rfl⟩
theorem f11_64 : DecJ prog_25_method_14_code 64 (.if_icmp .eq 57) 57 121 67 := ⟨by decide +kernel, by decide, by decide, rfl⟩
theorem f11_121 : Dec prog_25_method_14_code 121 (.aload_n 0) 1 122 := ⟨by decide +kernel, rfl⟩
theorem f11_122 : Dec prog_25_method_14_code 122 (.getfield 9) 3 125 := ⟨by decide +kernel, rfl⟩
theorem f11_125 : Dec prog_25_method_14_code 125 (.iload 7) 2 127 := ⟨by decide +kernel, rfl⟩
theorem f11_127 : Dec prog_25_method_14_code 127 (.iload 6) 2 129 := ⟨by decide +kernel, rfl⟩
theorem f11_129 : Dec prog_25_method_14_code 129 (.iastore) 1 130 := ⟨by decide +kernel, rfl⟩
theorem f11_130 : Dec prog_25_method_14_code 130 (.iload 4) 2 132 := ⟨by decide +kernel, rfl⟩
theorem f11_132 : Dec prog_25_method_14_code 132 (.iload 7) 2 134 := ⟨by decide +kernel, rfl⟩
theorem f11_134 : Dec prog_25_method_14_code 134 (.invokestatic 86) 3 137 := ⟨by decide +kernel, rfl⟩
theorem f11_137 : Dec prog_25_method_14_code 137 (.istore 4) 2 139 := ⟨by decide +kernel, rfl⟩
theorem f11_139 : Dec prog_25_method_14_code 139 (.iinc 5 1) 3 142 := ⟨by decide +kernel, rfl⟩
theorem f11_142 : DecJ prog_25_method_14_code 142 (.goto (-110)) (-110) 32 145 := ⟨by decide +kernel, by decide, by decide, rfl⟩
theorem f11_145 : Dec prog_25_method_14_code 145 (.aload_n 0) 1 146 := ⟨by decide +kernel, rfl⟩
theorem f11_146 : Dec prog_25_method_14_code 146 (.iconst (-1)) 1 147 := ⟨by decide +kernel, rfl⟩
theorem f11_147 : Dec prog_25_method_14_code 147 (.putfield 13) 3 150 := ⟨by decide +kernel, rfl⟩
theorem f11_150 : Dec prog_25_method_14_code 150 (.iconst 0) 1 151 := ⟨by decide +kernel, rfl⟩
theorem f11_151 : Dec prog_25_method_14_code 151 (.istore 5) 2 153 := ⟨by decide +kernel, rfl⟩
theorem f11_153 : Dec prog_25_method_14_code 153 (.iload 5) 2 155 := ⟨by decide +kernel, rfl⟩
theorem f11_155 : Dec prog_25_method_14_code 155 (.iload 4) 2 157 := ⟨by decide +kernel, rfl⟩
theorem f11_157 : DecJ prog_25_method_14_code 157 (.if_icmp .gt 59) 59 216 160 := ⟨by decide +kernel, by decide, by decide, rfl⟩
theorem f11_160 : Dec prog_25_method_14_code 160 (.aload_n 0) 1 161 := ⟨by decide +kernel, rfl⟩
theorem f11_161 : Dec prog_25_method_14_code 161 (.getfield 9) 3 164 := ⟨by decide +kernel, rfl⟩
theorem f11_164 : Dec prog_25_method_14_code 164 (.iload 5) 2 166 := ⟨by decide +kernel, rfl⟩
theorem f11_166 : Dec prog_25_method_14_code 166 (.iaload) 1 167 := ⟨by decide +kernel, rfl⟩
theorem f11_167 : Dec prog_25_method_14_code 167 (.istore 6) 2 169 := ⟨by decide +kernel, rfl⟩
theorem f11_169 : Dec prog_25_method_14_code 169 (.iload 6) 2 171 := ⟨by decide +kernel, rfl⟩
theorem f11_171 : Dec prog_25_method_14_code 171 (.iconst (-1)) 1 172 := ⟨by decide +kernel, rfl⟩
theorem f11_172 : DecJ prog_25_method_14_code 172 (.if_icmp .eq 30) 30 202 175 := ⟨by decide +kernel, by decide, by decide, rfl⟩
theorem f11_175 : Dec prog_25_method_14_code 175 (.aload_n 0) 1 176 := ⟨by decide +kernel, rfl⟩
theorem f11_176 : Dec prog_25_method_14_code 176 (.getfield 13) 3 179 := ⟨by decide +kernel, rfl⟩
theorem f11_179 : Dec prog_25_method_14_code 179 (.iconst (-1)) 1 180 := ⟨by decide +kernel, rfl⟩
theorem f11_180 : DecJ prog_25_method_14_code 180 (.if_icmp .eq 16) 16 196 183 := ⟨by decide +kernel, by decide, by decide, rfl⟩
theorem f11_196 : Dec prog_25_method_14_code 196 (.aload_n 0) 1 197 := ⟨by decide +kernel, rfl⟩
theorem f11_197 : Dec prog_25_method_14_code 197 (.iload 6) 2 199 := ⟨by decide +kernel, rfl⟩
theorem f11_199 : Dec prog_25_method_14_code 199 (.putfield 13) 3 202 := ⟨by decide +kernel, rfl⟩
theorem f11_202 : Dec prog_25_method_14_code 202 (.aload_n 0) 1 203 := ⟨by decide +kernel, rfl⟩
theorem f11_203 : Dec prog_25_method_14_code 203 (.getfield 9) 3 206 := ⟨by decide +kernel, rfl⟩
theorem f11_206 : Dec prog_25_method_14_code 206 (.iload 5) 2 208 := ⟨by decide +kernel, rfl⟩
theorem f11_208 : Dec prog_25_method_14_code 208 (.iconst (-1)) 1 209 := ⟨by decide +kernel, rfl⟩
theorem f11_209 : Dec prog_25_method_14_code 209 (.iastore) 1 210 := ⟨by decide +kernel, rfl⟩
theorem f11_210 : Dec prog_25_method_14_code 210 (.iinc 5 1) 3 213 := ⟨by decide +kernel, rfl⟩
theorem f11_213 : DecJ prog_25_method_14_code 213 (.goto (-60)) (-60) 153 216 := ⟨by decide +kernel, by decide, by decide, rfl⟩
theorem f11_216 : Dec prog_25_method_14_code 216 (.return_) 1 217 := ⟨by decide +kernel, rfl⟩
theorem pn_11 : plainFor (⟨"com/example/hornwork/hornwork/FibonacciHeap", "consolidate", "(I)V"⟩ : MethodName) = true := plainFor_of_name (show plainName "com/example/hornwork/hornwork/FibonacciHeap" = true by first | (simp [plainName, overriddenIn]; done) | decide +kernel)
theorem ef_11_1 (m : MethodId) (a : Addr) (x1 : Nat) : entryFrame m #[(.ref a), (.int (Int32.ofInt x1))] 10 = mkF m 0 #[.val (.ref a), .val (.int (Int32.ofInt x1)), .unset, .unset, .unset, .unset, .unset, .unset, .unset, .unset] [] := by first | (simp [entryFrame, mkF, argsToLocals, Value.category]; done) | rfl
def Q11_1 (Z : State) (a : Addr) (x1 : Nat) (ky : Addr) (pa : Addr) (ch : Addr) (le : Addr) (ri : Addr) (de : Addr) (mk : Addr) (co : Addr) (ro : Addr) (rd : Addr) (kri : ClassId) (kde : ClassId) (kro : ClassId) (krd : ClassId) (RI : Nat → Int) (DE : Nat → Int) (RO : Nat → Int) (RD : Nat → Int) (lv : Int32) (h0 : Heap) (n0 : Nat) (v9 : Option Value) (h9 : Heap) (L9 : List Loc) : Prop := v9 = none ∧ Fr n0 L9 ∧ Keep h0 h9 [ro, rd, a] ∧ Exa Z h9 a "com/example/hornwork/hornwork/FibonacciHeap" ∧ Fld Z h9 a "com/example/hornwork/hornwork/FibonacciHeap" "key" "[D" (.ref ky) ∧ Fld Z h9 a "com/example/hornwork/hornwork/FibonacciHeap" "parent" "[I" (.ref pa) ∧ Fld Z h9 a "com/example/hornwork/hornwork/FibonacciHeap" "child" "[I" (.ref ch) ∧ Fld Z h9 a "com/example/hornwork/hornwork/FibonacciHeap" "left" "[I" (.ref le) ∧ Fld Z h9 a "com/example/hornwork/hornwork/FibonacciHeap" "right" "[I" (.ref ri) ∧ Fld Z h9 a "com/example/hornwork/hornwork/FibonacciHeap" "degree" "[I" (.ref de) ∧ Fld Z h9 a "com/example/hornwork/hornwork/FibonacciHeap" "marked" "[Z" (.ref mk) ∧ Fld Z h9 a "com/example/hornwork/hornwork/FibonacciHeap" "contained" "[Z" (.ref co) ∧ Fld Z h9 a "com/example/hornwork/hornwork/FibonacciHeap" "roots" "[I" (.ref ro) ∧ Fld Z h9 a "com/example/hornwork/hornwork/FibonacciHeap" "rootOfDegree" "[I" (.ref rd) ∧ Fld Z h9 a "com/example/hornwork/hornwork/FibonacciHeap" "least" "I" (.int (Int32.ofInt x1)) ∧ Arv Z h9 ro kro .int (3 : Int32) (own_ar 3 (own_upd RO 0 x1)) (.int (0 : Int32)) ∧ Arv Z h9 rd krd .int (64 : Int32) (own_ar 64 (own_upd (own_upd RD 0 x1) 0 (-1))) (.int (0 : Int32))
set_option maxRecDepth 65536 in
set_option maxHeartbeats 40000000 in
theorem rm11_1 (l : Launch) (Z : State) (a0 : Array Value) (hw : ∀ d ∈ tables_1, d.before a0 Z = true) (ws : List Jvm.Cond) (a : Addr) (x1 : Nat) (ky : Addr) (pa : Addr) (ch : Addr) (le : Addr) (ri : Addr) (de : Addr) (mk : Addr) (co : Addr) (ro : Addr) (rd : Addr) (kri : ClassId) (kde : ClassId) (kro : ClassId) (krd : ClassId) (RI : Nat → Int) (DE : Nat → Int) (RO : Nat → Int) (RD : Nat → Int) (lv : Int32) (h0 : Heap) (n0 : Nat) (Z0 : n0 ≤ h0.size) (Exa_0 : Exa Z h0 a "com/example/hornwork/hornwork/FibonacciHeap") (Fld_1 : Fld Z h0 a "com/example/hornwork/hornwork/FibonacciHeap" "key" "[D" (.ref ky)) (Fld_2 : Fld Z h0 a "com/example/hornwork/hornwork/FibonacciHeap" "parent" "[I" (.ref pa)) (Fld_3 : Fld Z h0 a "com/example/hornwork/hornwork/FibonacciHeap" "child" "[I" (.ref ch)) (Fld_4 : Fld Z h0 a "com/example/hornwork/hornwork/FibonacciHeap" "left" "[I" (.ref le)) (Fld_5 : Fld Z h0 a "com/example/hornwork/hornwork/FibonacciHeap" "right" "[I" (.ref ri)) (Fld_6 : Fld Z h0 a "com/example/hornwork/hornwork/FibonacciHeap" "degree" "[I" (.ref de)) (Fld_7 : Fld Z h0 a "com/example/hornwork/hornwork/FibonacciHeap" "marked" "[Z" (.ref mk)) (Fld_8 : Fld Z h0 a "com/example/hornwork/hornwork/FibonacciHeap" "contained" "[Z" (.ref co)) (Fld_9 : Fld Z h0 a "com/example/hornwork/hornwork/FibonacciHeap" "roots" "[I" (.ref ro)) (Fld_10 : Fld Z h0 a "com/example/hornwork/hornwork/FibonacciHeap" "rootOfDegree" "[I" (.ref rd)) (Fld_11 : Fld Z h0 a "com/example/hornwork/hornwork/FibonacciHeap" "least" "I" (.int lv)) (Arv_12 : Arv Z h0 ri kri .int (3 : Int32) (own_ar 3 RI) (.int (0 : Int32))) (Arv_13 : Arv Z h0 de kde .int (3 : Int32) (own_ar 3 DE) (.int (0 : Int32))) (Arv_14 : Arv Z h0 ro kro .int (3 : Int32) (own_ar 3 RO) (.int (0 : Int32))) (Arv_15 : Arv Z h0 rd krd .int (64 : Int32) (own_ar 64 RD) (.int (0 : Int32))) (ge_16 : n0 ≤ a) (ge_17 : n0 ≤ ro) (ge_18 : n0 ≤ rd) (h_x1 : (x1 < 3)) (eR : (RI x1 = x1)) (eD : (DE x1 = 0)) (eZ0 : (RD 0 = (-1))) (ne_a_ro : a ≠ ro) (ne_ri_ro : ri ≠ ro) (ne_de_ro : de ≠ ro) (ne_rd_ro : rd ≠ ro) (ne_a_rd : a ≠ rd) :
    MetFree l (⟨"com/example/hornwork/hornwork/FibonacciHeap", "consolidate", "(I)V"⟩ : MethodName) (head1 (Jvm.Cond.code (⟨"com/example/hornwork/hornwork/FibonacciHeap", "consolidate", "(I)V"⟩ : MethodName) prog_25_method_14_code 10 none :: ws) ({ frames := 1, cells := 0, slots := 0, locals := 13 } : Room)) (fun A9 U9 => A9 = #[(.ref a), (.int (Int32.ofInt x1))] ∧ Z.Warmed39 U9.vm ∧ U9.heap = h0) (fun _ _ _ _ _ => True) (fun _ U9 o9 V9 => ∃ v9 L9, o9 = .returned v9 ∧ (Q11_1 Z a x1 ky pa ch le ri de mk co ro rd kri kde kro krd RI DE RO RD lv h0 n0) v9 V9.heap L9 ∧ FrameEnd U9 o9 V9 L9 ({ frames := 1, cells := 0, slots := 0, locals := 13 } : Room).cells ({ frames := 1, cells := 0, slots := 0, locals := 13 } : Room).slots) := by
  refine met_of (Q := (Q11_1 Z a x1 ky pa ch le ri de mk co ro rd kri kde kro krd RI DE RO RD lv h0 n0)) pn_11 ?_
  intro p e s m below meth c T0 C X0 e0
  have N0 := Fr.nil n0
  refine Go.cast (ef_11_1 m a x1) ?_
  refine wiconst C X0 f11_0 (0 : Int32) rfl ?_
  refine wistoreN C X0 f11_1 #[.val (.ref a), .val (.int (Int32.ofInt x1)), .val (.int (0 : Int32)), .unset, .unset, .unset, .unset, .unset, .unset, .unset] rfl ?_
  refine wiloadN C X0 f11_2 rfl ?_
  refine wistoreN C X0 f11_3 #[.val (.ref a), .val (.int (Int32.ofInt x1)), .val (.int (0 : Int32)), .val (.int (Int32.ofInt x1)), .unset, .unset, .unset, .unset, .unset, .unset] rfl ?_
  refine waloadN C X0 f11_4 rfl rfl ?_
  refine wget C X0 (host := "") (Or.inl (tw_33 hw)) Via.refl e0 Fld_9 f11_5 ?_
  intro T1 X1 e1
  refine wiloadN C X1 f11_8 rfl ?_
  refine wiinc C X1 f11_9 (1 : Int32) (by decide) rfl #[.val (.ref a), .val (.int (Int32.ofInt x1)), .val (.int (1 : Int32)), .val (.int (Int32.ofInt x1)), .unset, .unset, .unset, .unset, .unset, .unset] rfl ?_
  refine wiloadN C X1 f11_12 rfl ?_
  refine wiastore C X1 e1 Arv_14 f11_13 ⟨by decide, by decide⟩ 0 rfl (by rw [own_ar_len]; omega) (own_ar 3 (own_upd RO 0 x1)) (own_ar_set (by decide) rfl) ?_
  intro T2 h2 sl2 w2 X2 e2 W2 V2
  have N2 := Fr.snoc X2 N0 ge_17
  refine waloadN C X2 f11_14 rfl rfl ?_
  refine wget C X2 (host := "") (Or.inl (tw_24 hw)) Via.refl e2 (Fld_5.other W2 (Or.inl ne_a_ro)) f11_15 ?_
  intro T3 X3 e3
  refine wiloadN C X3 f11_18 rfl ?_
  refine wiaload C X3 e3 (Arv_12.other W2 ne_ri_ro) f11_19 (own_fx _ (by omega)) (i := x1) (own_fc _ (by omega)) (v := (Int32.ofInt x1)) (own_ar_at (by omega) (eR)) ?_
  refine wistoreN C X3 f11_20 #[.val (.ref a), .val (.int (Int32.ofInt x1)), .val (.int (1 : Int32)), .val (.int (Int32.ofInt x1)), .unset, .unset, .unset, .unset, .unset, .unset] rfl ?_
  refine wiloadN C X3 f11_21 rfl ?_
  refine wiloadN C X3 f11_22 rfl ?_
  refine wicmp_ne C X3 f11_23 ?_ (fun q => absurd (rfl : (Int32.ofInt x1) = (Int32.ofInt x1)) q)
  intro _
  refine wiconst C X3 f11_26 (0 : Int32) rfl ?_
  refine wistore C X3 f11_27 #[.val (.ref a), .val (.int (Int32.ofInt x1)), .val (.int (1 : Int32)), .val (.int (Int32.ofInt x1)), .val (.int (0 : Int32)), .unset, .unset, .unset, .unset, .unset] rfl ?_
  refine wiconst C X3 f11_29 (0 : Int32) rfl ?_
  refine wistore C X3 f11_30 #[.val (.ref a), .val (.int (Int32.ofInt x1)), .val (.int (1 : Int32)), .val (.int (Int32.ofInt x1)), .val (.int (0 : Int32)), .val (.int (0 : Int32)), .unset, .unset, .unset, .unset] rfl ?_
  refine wiload C X3 f11_32 rfl ?_
  refine wiloadN C X3 f11_34 rfl ?_
  refine wicmp_ge C X3 f11_35 ?_ (fun q => absurd (by decide : ((0 : Int32) < (1 : Int32))) q)
  intro _
  refine waloadN C X3 f11_38 rfl rfl ?_
  refine wget C X3 (host := "") (Or.inl (tw_33 hw)) Via.refl e3 (Fld_9.other W2 (Or.inl ne_a_ro)) f11_39 ?_
  intro T4 X4 e4
  refine wiload C X4 f11_42 rfl ?_
  refine wiaload C X4 e4 V2 f11_44 ⟨by decide, by decide⟩ (i := 0) rfl (v := (Int32.ofInt x1)) (own_ar_at (by decide) (own_us _ _ _)) ?_
  refine wistore C X4 f11_45 #[.val (.ref a), .val (.int (Int32.ofInt x1)), .val (.int (1 : Int32)), .val (.int (Int32.ofInt x1)), .val (.int (0 : Int32)), .val (.int (0 : Int32)), .val (.int (Int32.ofInt x1)), .unset, .unset, .unset] rfl ?_
  refine waloadN C X4 f11_47 rfl rfl ?_
  refine wget C X4 (host := "") (Or.inl (tw_26 hw)) Via.refl e4 (Fld_6.other W2 (Or.inl ne_a_ro)) f11_48 ?_
  intro T5 X5 e5
  refine wiload C X5 f11_51 rfl ?_
  refine wiaload C X5 e5 (Arv_13.other W2 ne_de_ro) f11_53 (own_fx _ (by omega)) (i := x1) (own_fc _ (by omega)) (v := (0 : Int32)) (own_vi (own_ar_at (by omega) (eD)) (by decide)) ?_
  refine wistore C X5 f11_54 #[.val (.ref a), .val (.int (Int32.ofInt x1)), .val (.int (1 : Int32)), .val (.int (Int32.ofInt x1)), .val (.int (0 : Int32)), .val (.int (0 : Int32)), .val (.int (Int32.ofInt x1)), .val (.int (0 : Int32)), .unset, .unset] rfl ?_
  refine waloadN C X5 f11_56 rfl rfl ?_
  refine wget C X5 (host := "") (Or.inl (tw_11 hw)) Via.refl e5 (Fld_10.other W2 (Or.inl ne_a_ro)) f11_57 ?_
  intro T6 X6 e6
  refine wiload C X6 f11_60 rfl ?_
  refine wiaload C X6 e6 (Arv_15.other W2 ne_rd_ro) f11_62 ⟨by decide, by decide⟩ (i := 0) rfl (v := (-1 : Int32)) (own_vi (own_ar_at (by decide) (eZ0)) (by decide)) ?_
  refine wiconst C X6 f11_63 (-1 : Int32) rfl ?_
  refine wicmp_eq C X6 f11_64 ?_ (fun q => absurd (by decide : ((-1 : Int32) = (-1 : Int32))) q)
  intro _
  refine waloadN C X6 f11_121 rfl rfl ?_
  refine wget C X6 (host := "") (Or.inl (tw_11 hw)) Via.refl e6 (Fld_10.other W2 (Or.inl ne_a_ro)) f11_122 ?_
  intro T7 X7 e7
  refine wiload C X7 f11_125 rfl ?_
  refine wiload C X7 f11_127 rfl ?_
  refine wiastore C X7 e7 (Arv_15.other W2 ne_rd_ro) f11_129 ⟨by decide, by decide⟩ 0 rfl (by rw [own_ar_len]; omega) (own_ar 64 (own_upd RD 0 x1)) (own_ar_set (by decide) rfl) ?_
  intro T8 h8 sl8 w8 X8 e8 W8 V8
  have N8 := Fr.snoc X8 N2 ge_18
  refine wiload C X8 f11_130 rfl ?_
  refine wiload C X8 f11_132 rfl ?_
  have q10 := (Nat.le_trans (Nat.le_trans Z0 (Nat.le_of_eq W2.size.symm)) (Nat.le_of_eq W8.size.symm))
  refine wstatic C X8 (y := (⟨"java/lang/Math", "max", "(II)I"⟩ : MethodName)) (tw_74 hw) (tw_75 hw) (tw_76 hw) (tw_77 hw) (by decide) (rm12 l Z a0 hw [] (0 : Int32) (0 : Int32) h8 n0 q10) e8 f11_134 (argsL := [(.int (0 : Int32)), (.int (0 : Int32))]) (rest := []) rfl rfl (lenOf pd_3 rfl) rfl (W := 0) (Nat.le_of_eq rfl) (by decide) (by decide) (by decide) (by decide) ?_
  intro v9 T9 L9 X9 q9
  obtain ⟨rfl, Nq9, eq9⟩ := q9
  have N9 := Fr.app N8 Nq9
  show Go p e below s _ _ _ T9 (mkF m 137 #[.val (.ref a), .val (.int (Int32.ofInt x1)), .val (.int (1 : Int32)), .val (.int (Int32.ofInt x1)), .val (.int (0 : Int32)), .val (.int (0 : Int32)), .val (.int (Int32.ofInt x1)), .val (.int (0 : Int32)), .unset, .unset] [(.int (R12 (0 : Int32) (0 : Int32)))])
  refine own_foldI (z := (0 : Int32)) (by decide) ?_
  refine wistore C X9 f11_137 #[.val (.ref a), .val (.int (Int32.ofInt x1)), .val (.int (1 : Int32)), .val (.int (Int32.ofInt x1)), .val (.int (0 : Int32)), .val (.int (0 : Int32)), .val (.int (Int32.ofInt x1)), .val (.int (0 : Int32)), .unset, .unset] rfl ?_
  refine wiinc C X9 f11_139 (1 : Int32) (by decide) rfl #[.val (.ref a), .val (.int (Int32.ofInt x1)), .val (.int (1 : Int32)), .val (.int (Int32.ofInt x1)), .val (.int (0 : Int32)), .val (.int (1 : Int32)), .val (.int (Int32.ofInt x1)), .val (.int (0 : Int32)), .unset, .unset] rfl ?_
  refine wgoto C X9 f11_142 ?_
  refine wiload C X9 f11_32 rfl ?_
  refine wiloadN C X9 f11_34 rfl ?_
  refine wicmp_ge C X9 f11_35 (fun q => absurd q (by decide : ¬ ((1 : Int32) < (1 : Int32)))) ?_
  intro _
  refine waloadN C X9 f11_145 rfl rfl ?_
  refine wiconst C X9 f11_146 (-1 : Int32) rfl ?_
  have q11 := ((Fld_11.other W2 (Or.inl ne_a_ro)).other W8 (Or.inl ne_a_rd))
  refine wput C X9 (host := "") (Or.inl (tw_13 hw)) Via.refl eq9 q11 ((Exa_0.wr W2).wr W8) (Or.inl (tw_14 hw)) (tw_2 hw) (ty := .int) (by decide) rfl rfl f11_147 ?_
  intro T12 h12 X12 e12 W12
  have Fw12 := q11.same W12
  have N12 := Fr.snoc X12 N9 ge_16
  refine wiconst C X12 f11_150 (0 : Int32) rfl ?_
  refine wistore C X12 f11_151 #[.val (.ref a), .val (.int (Int32.ofInt x1)), .val (.int (1 : Int32)), .val (.int (Int32.ofInt x1)), .val (.int (0 : Int32)), .val (.int (0 : Int32)), .val (.int (Int32.ofInt x1)), .val (.int (0 : Int32)), .unset, .unset] rfl ?_
  refine wiload C X12 f11_153 rfl ?_
  refine wiload C X12 f11_155 rfl ?_
  refine wicmp_gt C X12 f11_157 (fun q => absurd q (by decide : ¬ ((0 : Int32) < (0 : Int32)))) ?_
  intro _
  refine waloadN C X12 f11_160 rfl rfl ?_
  have q13 := (((Fld_10.other W2 (Or.inl ne_a_ro)).other W8 (Or.inl ne_a_rd)).other W12 (Or.inr (slot_ne (Or.inr (tw_12 hw)) (Or.inl (tw_14 hw)) (by decide) (t := (.array .int)) (t' := .int) (by decide) (by decide))))
  refine wget C X12 (host := "") (Or.inl (tw_11 hw)) Via.refl e12 q13 f11_161 ?_
  intro T14 X14 e14
  refine wiload C X14 f11_164 rfl ?_
  refine wiaload C X14 e14 (V8.other W12 (Ne.symm ne_a_rd)) f11_166 ⟨by decide, by decide⟩ (i := 0) rfl (v := (Int32.ofInt x1)) (own_ar_at (by decide) (own_us _ _ _)) ?_
  refine wistore C X14 f11_167 #[.val (.ref a), .val (.int (Int32.ofInt x1)), .val (.int (1 : Int32)), .val (.int (Int32.ofInt x1)), .val (.int (0 : Int32)), .val (.int (0 : Int32)), .val (.int (Int32.ofInt x1)), .val (.int (0 : Int32)), .unset, .unset] rfl ?_
  refine wiload C X14 f11_169 rfl ?_
  refine wiconst C X14 f11_171 (-1 : Int32) rfl ?_
  refine wicmp_eq C X14 f11_172 (fun q => absurd q (own_fm _ (by omega))) ?_
  intro _
  refine waloadN C X14 f11_175 rfl rfl ?_
  refine wget C X14 (host := "") (Or.inl (tw_13 hw)) Via.refl e14 Fw12 f11_176 ?_
  intro T15 X15 e15
  refine wiconst C X15 f11_179 (-1 : Int32) rfl ?_
  refine wicmp_eq C X15 f11_180 ?_ (fun q => absurd (by decide : ((-1 : Int32) = (-1 : Int32))) q)
  intro _
  refine waloadN C X15 f11_196 rfl rfl ?_
  refine wiload C X15 f11_197 rfl ?_
  refine wput C X15 (host := "") (Or.inl (tw_13 hw)) Via.refl e15 Fw12 (((Exa_0.wr W2).wr W8).wr W12) (Or.inl (tw_14 hw)) (tw_2 hw) (ty := .int) (by decide) rfl rfl f11_199 ?_
  intro T16 h16 X16 e16 W16
  have Fw16 := Fw12.same W16
  have N16 := Fr.snoc X16 N12 ge_16
  refine waloadN C X16 f11_202 rfl rfl ?_
  have q17 := (q13.other W16 (Or.inr (slot_ne (Or.inr (tw_12 hw)) (Or.inl (tw_14 hw)) (by decide) (t := (.array .int)) (t' := .int) (by decide) (by decide))))
  refine wget C X16 (host := "") (Or.inl (tw_11 hw)) Via.refl e16 q17 f11_203 ?_
  intro T18 X18 e18
  refine wiload C X18 f11_206 rfl ?_
  refine wiconst C X18 f11_208 (-1 : Int32) rfl ?_
  have q19 := ((V8.other W12 (Ne.symm ne_a_rd)).other W16 (Ne.symm ne_a_rd))
  refine wiastore C X18 e18 q19 f11_209 ⟨by decide, by decide⟩ 0 rfl (by rw [own_ar_len]; omega) (own_ar 64 (own_upd (own_upd RD 0 x1) 0 (-1))) (own_ar_set (by decide) (by decide)) ?_
  intro T20 h20 sl20 w20 X20 e20 W20 V20
  have N20 := Fr.snoc X20 N16 ge_18
  refine wiinc C X20 f11_210 (1 : Int32) (by decide) rfl #[.val (.ref a), .val (.int (Int32.ofInt x1)), .val (.int (1 : Int32)), .val (.int (Int32.ofInt x1)), .val (.int (0 : Int32)), .val (.int (1 : Int32)), .val (.int (Int32.ofInt x1)), .val (.int (0 : Int32)), .unset, .unset] rfl ?_
  refine wgoto C X20 f11_213 ?_
  refine wiload C X20 f11_153 rfl ?_
  refine wiload C X20 f11_155 rfl ?_
  refine wicmp_gt C X20 f11_157 ?_ (fun q => absurd (by decide : ((0 : Int32) < (1 : Int32))) q)
  intro _
  refine wret C X20 f11_216 rfl (by decide) (by decide) ?_
  rw [e20]
  have q21 := ((((((Keep.refl h0 [ro, rd, a]).wr W2 (Or.inl (List.mem_of_getElem? (i := 0) rfl))).wr W8 (Or.inl (List.mem_of_getElem? (i := 1) rfl))).wr W12 (Or.inl (List.mem_of_getElem? (i := 2) rfl))).wr W16 (Or.inl (List.mem_of_getElem? (i := 2) rfl))).wr W20 (Or.inl (List.mem_of_getElem? (i := 1) rfl)))
  have q22 := (((((Fld_1.other W2 (Or.inl ne_a_ro)).other W8 (Or.inl ne_a_rd)).other W12 (Or.inr (slot_ne (Or.inr (tw_17 hw)) (Or.inl (tw_14 hw)) (by decide) (t := (.array .double)) (t' := .int) (by decide) (by decide)))).other W16 (Or.inr (slot_ne (Or.inr (tw_17 hw)) (Or.inl (tw_14 hw)) (by decide) (t := (.array .double)) (t' := .int) (by decide) (by decide)))).other W20 (Or.inl ne_a_rd))
  have q23 := (((((Fld_2.other W2 (Or.inl ne_a_ro)).other W8 (Or.inl ne_a_rd)).other W12 (Or.inr (slot_ne (Or.inr (tw_19 hw)) (Or.inl (tw_14 hw)) (by decide) (t := (.array .int)) (t' := .int) (by decide) (by decide)))).other W16 (Or.inr (slot_ne (Or.inr (tw_19 hw)) (Or.inl (tw_14 hw)) (by decide) (t := (.array .int)) (t' := .int) (by decide) (by decide)))).other W20 (Or.inl ne_a_rd))
  have q24 := (((((Fld_3.other W2 (Or.inl ne_a_ro)).other W8 (Or.inl ne_a_rd)).other W12 (Or.inr (slot_ne (Or.inr (tw_21 hw)) (Or.inl (tw_14 hw)) (by decide) (t := (.array .int)) (t' := .int) (by decide) (by decide)))).other W16 (Or.inr (slot_ne (Or.inr (tw_21 hw)) (Or.inl (tw_14 hw)) (by decide) (t := (.array .int)) (t' := .int) (by decide) (by decide)))).other W20 (Or.inl ne_a_rd))
  have q25 := (((((Fld_4.other W2 (Or.inl ne_a_ro)).other W8 (Or.inl ne_a_rd)).other W12 (Or.inr (slot_ne (Or.inr (tw_23 hw)) (Or.inl (tw_14 hw)) (by decide) (t := (.array .int)) (t' := .int) (by decide) (by decide)))).other W16 (Or.inr (slot_ne (Or.inr (tw_23 hw)) (Or.inl (tw_14 hw)) (by decide) (t := (.array .int)) (t' := .int) (by decide) (by decide)))).other W20 (Or.inl ne_a_rd))
  have q26 := (((((Fld_5.other W2 (Or.inl ne_a_ro)).other W8 (Or.inl ne_a_rd)).other W12 (Or.inr (slot_ne (Or.inr (tw_25 hw)) (Or.inl (tw_14 hw)) (by decide) (t := (.array .int)) (t' := .int) (by decide) (by decide)))).other W16 (Or.inr (slot_ne (Or.inr (tw_25 hw)) (Or.inl (tw_14 hw)) (by decide) (t := (.array .int)) (t' := .int) (by decide) (by decide)))).other W20 (Or.inl ne_a_rd))
  have q27 := (((((Fld_6.other W2 (Or.inl ne_a_ro)).other W8 (Or.inl ne_a_rd)).other W12 (Or.inr (slot_ne (Or.inr (tw_27 hw)) (Or.inl (tw_14 hw)) (by decide) (t := (.array .int)) (t' := .int) (by decide) (by decide)))).other W16 (Or.inr (slot_ne (Or.inr (tw_27 hw)) (Or.inl (tw_14 hw)) (by decide) (t := (.array .int)) (t' := .int) (by decide) (by decide)))).other W20 (Or.inl ne_a_rd))
  have q28 := (((((Fld_7.other W2 (Or.inl ne_a_ro)).other W8 (Or.inl ne_a_rd)).other W12 (Or.inr (slot_ne (Or.inr (tw_30 hw)) (Or.inl (tw_14 hw)) (by decide) (t := (.array .boolean)) (t' := .int) (by decide) (by decide)))).other W16 (Or.inr (slot_ne (Or.inr (tw_30 hw)) (Or.inl (tw_14 hw)) (by decide) (t := (.array .boolean)) (t' := .int) (by decide) (by decide)))).other W20 (Or.inl ne_a_rd))
  have q29 := (((((Fld_8.other W2 (Or.inl ne_a_ro)).other W8 (Or.inl ne_a_rd)).other W12 (Or.inr (slot_ne (Or.inr (tw_32 hw)) (Or.inl (tw_14 hw)) (by decide) (t := (.array .boolean)) (t' := .int) (by decide) (by decide)))).other W16 (Or.inr (slot_ne (Or.inr (tw_32 hw)) (Or.inl (tw_14 hw)) (by decide) (t := (.array .boolean)) (t' := .int) (by decide) (by decide)))).other W20 (Or.inl ne_a_rd))
  have q30 := (((((Fld_9.other W2 (Or.inl ne_a_ro)).other W8 (Or.inl ne_a_rd)).other W12 (Or.inr (slot_ne (Or.inr (tw_34 hw)) (Or.inl (tw_14 hw)) (by decide) (t := (.array .int)) (t' := .int) (by decide) (by decide)))).other W16 (Or.inr (slot_ne (Or.inr (tw_34 hw)) (Or.inl (tw_14 hw)) (by decide) (t := (.array .int)) (t' := .int) (by decide) (by decide)))).other W20 (Or.inl ne_a_rd))
  have q31 := ((((V2.other W8 (Ne.symm ne_rd_ro)).other W12 (Ne.symm ne_a_ro)).other W16 (Ne.symm ne_a_ro)).other W20 (Ne.symm ne_rd_ro))
  exact ⟨rfl, N20, q21, (((((Exa_0.wr W2).wr W8).wr W12).wr W16).wr W20), q22, q23, q24, q25, q26, q27, q28, q29, q30, (q17.other W20 (Or.inl ne_a_rd)), (Fw16.other W20 (Or.inl ne_a_rd)), q31, V20⟩
theorem f11_67 : Dec prog_25_method_14_code 67 (.aload_n 0) 1 68 := ⟨by decide +kernel, rfl⟩
theorem f11_68 : Dec prog_25_method_14_code 68 (.getfield 9) 3 71 := ⟨by decide +kernel, rfl⟩
theorem f11_71 : Dec prog_25_method_14_code 71 (.iload 7) 2 73 := ⟨by decide +kernel, rfl⟩
theorem f11_73 : Dec prog_25_method_14_code 73 (.iaload) 1 74 := ⟨by decide +kernel, rfl⟩
theorem f11_74 : Dec prog_25_method_14_code 74 (.istore 8) 2 76 := ⟨by decide +kernel, rfl⟩
theorem f11_76 : Dec prog_25_method_14_code 76 (.aload_n 0) 1 77 := ⟨by decide +kernel, rfl⟩
theorem f11_77 : Dec prog_25_method_14_code 77 (.iload 8) 2 79 := ⟨by decide +kernel, rfl⟩
theorem f11_79 : Dec prog_25_method_14_code 79 (.iload 6) 2 81 := ⟨by decide +kernel, rfl⟩
theorem f11_81 : Dec prog_25_method_14_code 81 (.invokevirtual 63) 3 84 := ⟨by decide +kernel, rfl⟩
theorem f11_84 : DecJ prog_25_method_14_code 84 (.ifCond .eq 15) 15 99 87 := ⟨by decide +kernel, by decide, by decide, rfl⟩
theorem f11_87 : Dec prog_25_method_14_code 87 (.iload 6) 2 89 := ⟨by decide +kernel, rfl⟩
theorem f11_89 : Dec prog_25_method_14_code 89 (.istore 9) 2 91 := ⟨by decide +kernel, rfl⟩
theorem f11_91 : Dec prog_25_method_14_code 91 (.iload 8) 2 93 := ⟨by decide +kernel, rfl⟩
theorem f11_93 : Dec prog_25_method_14_code 93 (.istore 6) 2 95 := ⟨by decide +kernel, rfl⟩
theorem f11_95 : Dec prog_25_method_14_code 95 (.iload 9) 2 97 := ⟨by decide +kernel, rfl⟩
theorem f11_97 : Dec prog_25_method_14_code 97 (.istore 8) 2 99 := ⟨by decide +kernel, rfl⟩
theorem f11_99 : Dec prog_25_method_14_code 99 (.aload_n 0) 1 100 := ⟨by decide +kernel, rfl⟩
theorem f11_100 : Dec prog_25_method_14_code 100 (.iload 8) 2 102 := ⟨by decide +kernel, rfl⟩
theorem f11_102 : Dec prog_25_method_14_code 102 (.iload 6) 2 104 := ⟨by decide +kernel, rfl⟩
theorem f11_104 : Dec prog_25_method_14_code 104 (.invokevirtual 83) 3 107 := ⟨by decide +kernel, rfl⟩
theorem f11_107 : Dec prog_25_method_14_code 107 (.aload_n 0) 1 108 := ⟨by decide +kernel, rfl⟩
theorem f11_108 : Dec prog_25_method_14_code 108 (.getfield 9) 3 111 := ⟨by decide +kernel, rfl⟩
theorem f11_111 : Dec prog_25_method_14_code 111 (.iload 7) 2 113 := ⟨by decide +kernel, rfl⟩
theorem f11_113 : Dec prog_25_method_14_code 113 (.iinc 7 1) 3 116 := ⟨by decide +kernel, rfl⟩
theorem f11_116 : Dec prog_25_method_14_code 116 (.iconst (-1)) 1 117 := ⟨by decide +kernel, rfl⟩
theorem f11_117 : Dec prog_25_method_14_code 117 (.iastore) 1 118 := ⟨by decide +kernel, rfl⟩
theorem f11_118 : DecJ prog_25_method_14_code 118 (.goto (-62)) (-62) 56 121 := ⟨by decide +kernel, by decide, by decide, rfl⟩
theorem ef_11_2 (m : MethodId) (a : Addr) (x1 : Nat) : entryFrame m #[(.ref a), (.int (Int32.ofInt x1))] 10 = mkF m 0 #[.val (.ref a), .val (.int (Int32.ofInt x1)), .unset, .unset, .unset, .unset, .unset, .unset, .unset, .unset] [] := by first | (simp [entryFrame, mkF, argsToLocals, Value.category]; done) | rfl
def Q11_2 (Z : State) (a : Addr) (x1 : Nat) (ky : Addr) (pa : Addr) (ch : Addr) (le : Addr) (ri : Addr) (de : Addr) (mk : Addr) (co : Addr) (ro : Addr) (rd : Addr) (kri : ClassId) (kle : ClassId) (kch : ClassId) (kpa : ClassId) (kde : ClassId) (kmk : ClassId) (kro : ClassId) (krd : ClassId) (kky : ClassId) (RI : Nat → Int) (LE : Nat → Int) (CH : Nat → Int) (PA : Nat → Int) (DE : Nat → Int) (MK : Nat → Int) (RO : Nat → Int) (RD : Nat → Int) (kf : Nat → UInt64) (lv : Int32) (K : Nat → Int) (x2 : Nat) (h0 : Heap) (n0 : Nat) (v9 : Option Value) (h9 : Heap) (L9 : List Loc) : Prop := ∃ (tp : Nat), ∃ (ot : Nat), v9 = none ∧ Fr n0 L9 ∧ Keep h0 h9 [ri, le, ch, pa, de, mk, ro, rd, a] ∧ Exa Z h9 a "com/example/hornwork/hornwork/FibonacciHeap" ∧ Fld Z h9 a "com/example/hornwork/hornwork/FibonacciHeap" "key" "[D" (.ref ky) ∧ Fld Z h9 a "com/example/hornwork/hornwork/FibonacciHeap" "parent" "[I" (.ref pa) ∧ Fld Z h9 a "com/example/hornwork/hornwork/FibonacciHeap" "child" "[I" (.ref ch) ∧ Fld Z h9 a "com/example/hornwork/hornwork/FibonacciHeap" "left" "[I" (.ref le) ∧ Fld Z h9 a "com/example/hornwork/hornwork/FibonacciHeap" "right" "[I" (.ref ri) ∧ Fld Z h9 a "com/example/hornwork/hornwork/FibonacciHeap" "degree" "[I" (.ref de) ∧ Fld Z h9 a "com/example/hornwork/hornwork/FibonacciHeap" "marked" "[Z" (.ref mk) ∧ Fld Z h9 a "com/example/hornwork/hornwork/FibonacciHeap" "contained" "[Z" (.ref co) ∧ Fld Z h9 a "com/example/hornwork/hornwork/FibonacciHeap" "roots" "[I" (.ref ro) ∧ Fld Z h9 a "com/example/hornwork/hornwork/FibonacciHeap" "rootOfDegree" "[I" (.ref rd) ∧ Fld Z h9 a "com/example/hornwork/hornwork/FibonacciHeap" "least" "I" (.int (Int32.ofInt tp)) ∧ Arv Z h9 ri kri .int (3 : Int32) (own_ar 3 (own_upd (own_upd RI tp tp) ot ot)) (.int (0 : Int32)) ∧ Arv Z h9 le kle .int (3 : Int32) (own_ar 3 (own_upd (own_upd LE tp tp) ot ot)) (.int (0 : Int32)) ∧ Arv Z h9 ch kch .int (3 : Int32) (own_ar 3 (own_upd CH tp ot)) (.int (0 : Int32)) ∧ Arv Z h9 pa kpa .int (3 : Int32) (own_ar 3 (own_upd PA ot tp)) (.int (0 : Int32)) ∧ Arv Z h9 de kde .int (3 : Int32) (own_ar 3 (own_upd DE tp 1)) (.int (0 : Int32)) ∧ Arv Z h9 mk kmk .boolean (3 : Int32) (own_ar 3 (own_upd MK ot 0)) (.int (0 : Int32)) ∧ Arv Z h9 ro kro .int (3 : Int32) (own_ar 3 (own_upd (own_upd RO 0 x1) 1 x2)) (.int (0 : Int32)) ∧ Arv Z h9 rd krd .int (64 : Int32) (own_ar 64 (own_upd (own_upd (own_upd (own_upd (own_upd RD 0 x1) 0 (-1)) 1 tp) 0 (-1)) 1 (-1))) (.int (0 : Int32)) ∧ ((x1 = tp ∧ x2 = ot ∧ own_bfr K x1 x2) ∨ (x2 = tp ∧ x1 = ot ∧ own_bfr K x2 x1))
set_option maxRecDepth 65536 in
set_option maxHeartbeats 40000000 in
theorem rm11_2 (l : Launch) (Z : State) (a0 : Array Value) (hw : ∀ d ∈ tables_1, d.before a0 Z = true) (ws : List Jvm.Cond) (a : Addr) (x1 : Nat) (ky : Addr) (pa : Addr) (ch : Addr) (le : Addr) (ri : Addr) (de : Addr) (mk : Addr) (co : Addr) (ro : Addr) (rd : Addr) (kri : ClassId) (kle : ClassId) (kch : ClassId) (kpa : ClassId) (kde : ClassId) (kmk : ClassId) (kro : ClassId) (krd : ClassId) (kky : ClassId) (RI : Nat → Int) (LE : Nat → Int) (CH : Nat → Int) (PA : Nat → Int) (DE : Nat → Int) (MK : Nat → Int) (RO : Nat → Int) (RD : Nat → Int) (kf : Nat → UInt64) (lv : Int32) (K : Nat → Int) (x2 : Nat) (h0 : Heap) (n0 : Nat) (Z0 : n0 ≤ h0.size) (Exa_0 : Exa Z h0 a "com/example/hornwork/hornwork/FibonacciHeap") (Fld_1 : Fld Z h0 a "com/example/hornwork/hornwork/FibonacciHeap" "key" "[D" (.ref ky)) (Fld_2 : Fld Z h0 a "com/example/hornwork/hornwork/FibonacciHeap" "parent" "[I" (.ref pa)) (Fld_3 : Fld Z h0 a "com/example/hornwork/hornwork/FibonacciHeap" "child" "[I" (.ref ch)) (Fld_4 : Fld Z h0 a "com/example/hornwork/hornwork/FibonacciHeap" "left" "[I" (.ref le)) (Fld_5 : Fld Z h0 a "com/example/hornwork/hornwork/FibonacciHeap" "right" "[I" (.ref ri)) (Fld_6 : Fld Z h0 a "com/example/hornwork/hornwork/FibonacciHeap" "degree" "[I" (.ref de)) (Fld_7 : Fld Z h0 a "com/example/hornwork/hornwork/FibonacciHeap" "marked" "[Z" (.ref mk)) (Fld_8 : Fld Z h0 a "com/example/hornwork/hornwork/FibonacciHeap" "contained" "[Z" (.ref co)) (Fld_9 : Fld Z h0 a "com/example/hornwork/hornwork/FibonacciHeap" "roots" "[I" (.ref ro)) (Fld_10 : Fld Z h0 a "com/example/hornwork/hornwork/FibonacciHeap" "rootOfDegree" "[I" (.ref rd)) (Fld_11 : Fld Z h0 a "com/example/hornwork/hornwork/FibonacciHeap" "least" "I" (.int lv)) (Arv_12 : Arv Z h0 ri kri .int (3 : Int32) (own_ar 3 RI) (.int (0 : Int32))) (Arv_13 : Arv Z h0 le kle .int (3 : Int32) (own_ar 3 LE) (.int (0 : Int32))) (Arv_14 : Arv Z h0 ch kch .int (3 : Int32) (own_ar 3 CH) (.int (0 : Int32))) (Arv_15 : Arv Z h0 pa kpa .int (3 : Int32) (own_ar 3 PA) (.int (0 : Int32))) (Arv_16 : Arv Z h0 de kde .int (3 : Int32) (own_ar 3 DE) (.int (0 : Int32))) (Arv_17 : Arv Z h0 mk kmk .boolean (3 : Int32) (own_ar 3 MK) (.int (0 : Int32))) (Arv_18 : Arv Z h0 ro kro .int (3 : Int32) (own_ar 3 RO) (.int (0 : Int32))) (Arv_19 : Arv Z h0 rd krd .int (64 : Int32) (own_ar 64 RD) (.int (0 : Int32))) (Arv_20 : Arv Z h0 ky kky .double (3 : Int32) (own_dr 3 kf) (.double (0 : UInt64))) (ge_21 : n0 ≤ a) (ge_22 : n0 ≤ ri) (ge_23 : n0 ≤ le) (ge_24 : n0 ≤ ch) (ge_25 : n0 ≤ pa) (ge_26 : n0 ≤ de) (ge_27 : n0 ≤ mk) (ge_28 : n0 ≤ ro) (ge_29 : n0 ≤ rd) (h_x1 : (x1 < 3)) (h_x2 : (x2 < 3)) (hd : (x1 ≠ x2)) (hK : (∀ i, i < 3 → FP.Core.DInt (K i) (kf i))) (eR1 : (RI x1 = x2)) (eR2 : (RI x2 = x1)) (eL1 : (LE x1 = x2)) (eL2 : (LE x2 = x1)) (eD1 : (DE x1 = 0)) (eD2 : (DE x2 = 0)) (eC1 : (CH x1 = (-1))) (eC2 : (CH x2 = (-1))) (eZ0 : (RD 0 = (-1))) (eZ1 : (RD 1 = (-1))) (ne_a_ro : a ≠ ro) (ne_ri_ro : ri ≠ ro) (ne_de_ro : de ≠ ro) (ne_rd_ro : rd ≠ ro) (ne_a_rd : a ≠ rd) (ne_de_rd : de ≠ rd) (ne_ky_ro : ky ≠ ro) (ne_ky_rd : ky ≠ rd) (ne_rd_ri : rd ≠ ri) (ne_le_ro : le ≠ ro) (ne_le_rd : le ≠ rd) (ne_ch_ro : ch ≠ ro) (ne_ch_rd : ch ≠ rd) (ne_pa_ro : pa ≠ ro) (ne_pa_rd : pa ≠ rd) (ne_mk_ro : mk ≠ ro) (ne_mk_rd : mk ≠ rd) (ne_a_ri : a ≠ ri) (ne_le_ri : le ≠ ri) (ne_a_le : a ≠ le) (ne_ch_le : ch ≠ le) (ne_ch_ri : ch ≠ ri) (ne_a_ch : a ≠ ch) (ne_le_pa : le ≠ pa) (ne_pa_ri : pa ≠ ri) (ne_ch_pa : ch ≠ pa) (ne_a_pa : a ≠ pa) (ne_de_le : de ≠ le) (ne_de_ri : de ≠ ri) (ne_ch_de : ch ≠ de) (ne_de_pa : de ≠ pa) (ne_a_de : a ≠ de) (ne_le_mk : le ≠ mk) (ne_mk_ri : mk ≠ ri) (ne_ch_mk : ch ≠ mk) (ne_mk_pa : mk ≠ pa) (ne_de_mk : de ≠ mk) (ne_a_mk : a ≠ mk) :
    MetFree l (⟨"com/example/hornwork/hornwork/FibonacciHeap", "consolidate", "(I)V"⟩ : MethodName) (head1 (Jvm.Cond.code (⟨"com/example/hornwork/hornwork/FibonacciHeap", "consolidate", "(I)V"⟩ : MethodName) prog_25_method_14_code 10 none :: ws) ({ frames := 2, cells := 0, slots := 0, locals := 27 } : Room)) (fun A9 U9 => A9 = #[(.ref a), (.int (Int32.ofInt x1))] ∧ Z.Warmed39 U9.vm ∧ U9.heap = h0) (fun _ _ _ _ _ => True) (fun _ U9 o9 V9 => ∃ v9 L9, o9 = .returned v9 ∧ (Q11_2 Z a x1 ky pa ch le ri de mk co ro rd kri kle kch kpa kde kmk kro krd kky RI LE CH PA DE MK RO RD kf lv K x2 h0 n0) v9 V9.heap L9 ∧ FrameEnd U9 o9 V9 L9 ({ frames := 2, cells := 0, slots := 0, locals := 27 } : Room).cells ({ frames := 2, cells := 0, slots := 0, locals := 27 } : Room).slots) := by
  refine met_of (Q := (Q11_2 Z a x1 ky pa ch le ri de mk co ro rd kri kle kch kpa kde kmk kro krd kky RI LE CH PA DE MK RO RD kf lv K x2 h0 n0)) pn_11 ?_
  intro p e s m below meth c T0 C X0 e0
  have N0 := Fr.nil n0
  refine Go.cast (ef_11_2 m a x1) ?_
  refine wiconst C X0 f11_0 (0 : Int32) rfl ?_
  refine wistoreN C X0 f11_1 #[.val (.ref a), .val (.int (Int32.ofInt x1)), .val (.int (0 : Int32)), .unset, .unset, .unset, .unset, .unset, .unset, .unset] rfl ?_
  refine wiloadN C X0 f11_2 rfl ?_
  refine wistoreN C X0 f11_3 #[.val (.ref a), .val (.int (Int32.ofInt x1)), .val (.int (0 : Int32)), .val (.int (Int32.ofInt x1)), .unset, .unset, .unset, .unset, .unset, .unset] rfl ?_
  refine waloadN C X0 f11_4 rfl rfl ?_
  refine wget C X0 (host := "") (Or.inl (tw_33 hw)) Via.refl e0 Fld_9 f11_5 ?_
  intro T1 X1 e1
  refine wiloadN C X1 f11_8 rfl ?_
  refine wiinc C X1 f11_9 (1 : Int32) (by decide) rfl #[.val (.ref a), .val (.int (Int32.ofInt x1)), .val (.int (1 : Int32)), .val (.int (Int32.ofInt x1)), .unset, .unset, .unset, .unset, .unset, .unset] rfl ?_
  refine wiloadN C X1 f11_12 rfl ?_
  refine wiastore C X1 e1 Arv_18 f11_13 ⟨by decide, by decide⟩ 0 rfl (by rw [own_ar_len]; omega) (own_ar 3 (own_upd RO 0 x1)) (own_ar_set (by decide) rfl) ?_
  intro T2 h2 sl2 w2 X2 e2 W2 V2
  have N2 := Fr.snoc X2 N0 ge_28
  refine waloadN C X2 f11_14 rfl rfl ?_
  refine wget C X2 (host := "") (Or.inl (tw_24 hw)) Via.refl e2 (Fld_5.other W2 (Or.inl ne_a_ro)) f11_15 ?_
  intro T3 X3 e3
  refine wiloadN C X3 f11_18 rfl ?_
  refine wiaload C X3 e3 (Arv_12.other W2 ne_ri_ro) f11_19 (own_fx _ (by omega)) (i := x1) (own_fc _ (by omega)) (v := (Int32.ofInt x2)) (own_ar_at (by omega) (eR1)) ?_
  refine wistoreN C X3 f11_20 #[.val (.ref a), .val (.int (Int32.ofInt x1)), .val (.int (1 : Int32)), .val (.int (Int32.ofInt x2)), .unset, .unset, .unset, .unset, .unset, .unset] rfl ?_
  refine wiloadN C X3 f11_21 rfl ?_
  refine wiloadN C X3 f11_22 rfl ?_
  refine wicmp_ne C X3 f11_23 (fun q => absurd q (own_fe _ (by omega) _ (by omega) (by omega))) ?_
  intro _
  refine waloadN C X3 f11_4 rfl rfl ?_
  refine wget C X3 (host := "") (Or.inl (tw_33 hw)) Via.refl e3 (Fld_9.other W2 (Or.inl ne_a_ro)) f11_5 ?_
  intro T4 X4 e4
  refine wiloadN C X4 f11_8 rfl ?_
  refine wiinc C X4 f11_9 (2 : Int32) (by decide) rfl #[.val (.ref a), .val (.int (Int32.ofInt x1)), .val (.int (2 : Int32)), .val (.int (Int32.ofInt x2)), .unset, .unset, .unset, .unset, .unset, .unset] rfl ?_
  refine wiloadN C X4 f11_12 rfl ?_
  refine wiastore C X4 e4 V2 f11_13 ⟨by decide, by decide⟩ 1 rfl (by rw [own_ar_len]; omega) (own_ar 3 (own_upd (own_upd RO 0 x1) 1 x2)) (own_ar_set (by decide) rfl) ?_
  intro T5 h5 sl5 w5 X5 e5 W5 V5
  have N5 := Fr.snoc X5 N2 ge_28
  refine waloadN C X5 f11_14 rfl rfl ?_
  have q6 := ((Fld_5.other W2 (Or.inl ne_a_ro)).other W5 (Or.inl ne_a_ro))
  refine wget C X5 (host := "") (Or.inl (tw_24 hw)) Via.refl e5 q6 f11_15 ?_
  intro T7 X7 e7
  refine wiloadN C X7 f11_18 rfl ?_
  refine wiaload C X7 e7 ((Arv_12.other W2 ne_ri_ro).other W5 ne_ri_ro) f11_19 (own_fx _ (by omega)) (i := x2) (own_fc _ (by omega)) (v := (Int32.ofInt x1)) (own_ar_at (by omega) (eR2)) ?_
  refine wistoreN C X7 f11_20 #[.val (.ref a), .val (.int (Int32.ofInt x1)), .val (.int (2 : Int32)), .val (.int (Int32.ofInt x1)), .unset, .unset, .unset, .unset, .unset, .unset] rfl ?_
  refine wiloadN C X7 f11_21 rfl ?_
  refine wiloadN C X7 f11_22 rfl ?_
  refine wicmp_ne C X7 f11_23 ?_ (fun q => absurd (rfl : (Int32.ofInt x1) = (Int32.ofInt x1)) q)
  intro _
  refine wiconst C X7 f11_26 (0 : Int32) rfl ?_
  refine wistore C X7 f11_27 #[.val (.ref a), .val (.int (Int32.ofInt x1)), .val (.int (2 : Int32)), .val (.int (Int32.ofInt x1)), .val (.int (0 : Int32)), .unset, .unset, .unset, .unset, .unset] rfl ?_
  refine wiconst C X7 f11_29 (0 : Int32) rfl ?_
  refine wistore C X7 f11_30 #[.val (.ref a), .val (.int (Int32.ofInt x1)), .val (.int (2 : Int32)), .val (.int (Int32.ofInt x1)), .val (.int (0 : Int32)), .val (.int (0 : Int32)), .unset, .unset, .unset, .unset] rfl ?_
  refine wiload C X7 f11_32 rfl ?_
  refine wiloadN C X7 f11_34 rfl ?_
  refine wicmp_ge C X7 f11_35 ?_ (fun q => absurd (by decide : ((0 : Int32) < (2 : Int32))) q)
  intro _
  refine waloadN C X7 f11_38 rfl rfl ?_
  have q8 := ((Fld_9.other W2 (Or.inl ne_a_ro)).other W5 (Or.inl ne_a_ro))
  refine wget C X7 (host := "") (Or.inl (tw_33 hw)) Via.refl e7 q8 f11_39 ?_
  intro T9 X9 e9
  refine wiload C X9 f11_42 rfl ?_
  refine wiaload C X9 e9 V5 f11_44 ⟨by decide, by decide⟩ (i := 0) rfl (v := (Int32.ofInt x1)) (own_ar_at (by decide) ((own_un (by decide)).trans (own_us _ _ _))) ?_
  refine wistore C X9 f11_45 #[.val (.ref a), .val (.int (Int32.ofInt x1)), .val (.int (2 : Int32)), .val (.int (Int32.ofInt x1)), .val (.int (0 : Int32)), .val (.int (0 : Int32)), .val (.int (Int32.ofInt x1)), .unset, .unset, .unset] rfl ?_
  refine waloadN C X9 f11_47 rfl rfl ?_
  have q10 := ((Fld_6.other W2 (Or.inl ne_a_ro)).other W5 (Or.inl ne_a_ro))
  refine wget C X9 (host := "") (Or.inl (tw_26 hw)) Via.refl e9 q10 f11_48 ?_
  intro T11 X11 e11
  refine wiload C X11 f11_51 rfl ?_
  refine wiaload C X11 e11 ((Arv_16.other W2 ne_de_ro).other W5 ne_de_ro) f11_53 (own_fx _ (by omega)) (i := x1) (own_fc _ (by omega)) (v := (0 : Int32)) (own_vi (own_ar_at (by omega) (eD1)) (by decide)) ?_
  refine wistore C X11 f11_54 #[.val (.ref a), .val (.int (Int32.ofInt x1)), .val (.int (2 : Int32)), .val (.int (Int32.ofInt x1)), .val (.int (0 : Int32)), .val (.int (0 : Int32)), .val (.int (Int32.ofInt x1)), .val (.int (0 : Int32)), .unset, .unset] rfl ?_
  refine waloadN C X11 f11_56 rfl rfl ?_
  have q12 := ((Fld_10.other W2 (Or.inl ne_a_ro)).other W5 (Or.inl ne_a_ro))
  refine wget C X11 (host := "") (Or.inl (tw_11 hw)) Via.refl e11 q12 f11_57 ?_
  intro T13 X13 e13
  refine wiload C X13 f11_60 rfl ?_
  refine wiaload C X13 e13 ((Arv_19.other W2 ne_rd_ro).other W5 ne_rd_ro) f11_62 ⟨by decide, by decide⟩ (i := 0) rfl (v := (-1 : Int32)) (own_vi (own_ar_at (by decide) (eZ0)) (by decide)) ?_
  refine wiconst C X13 f11_63 (-1 : Int32) rfl ?_
  refine wicmp_eq C X13 f11_64 ?_ (fun q => absurd (by decide : ((-1 : Int32) = (-1 : Int32))) q)
  intro _
  refine waloadN C X13 f11_121 rfl rfl ?_
  refine wget C X13 (host := "") (Or.inl (tw_11 hw)) Via.refl e13 q12 f11_122 ?_
  intro T14 X14 e14
  refine wiload C X14 f11_125 rfl ?_
  refine wiload C X14 f11_127 rfl ?_
  refine wiastore C X14 e14 ((Arv_19.other W2 ne_rd_ro).other W5 ne_rd_ro) f11_129 ⟨by decide, by decide⟩ 0 rfl (by rw [own_ar_len]; omega) (own_ar 64 (own_upd RD 0 x1)) (own_ar_set (by decide) rfl) ?_
  intro T15 h15 sl15 w15 X15 e15 W15 V15
  have N15 := Fr.snoc X15 N5 ge_29
  refine wiload C X15 f11_130 rfl ?_
  refine wiload C X15 f11_132 rfl ?_
  have q17 := (Nat.le_trans (Nat.le_trans (Nat.le_trans Z0 (Nat.le_of_eq W2.size.symm)) (Nat.le_of_eq W5.size.symm)) (Nat.le_of_eq W15.size.symm))
  refine wstatic C X15 (y := (⟨"java/lang/Math", "max", "(II)I"⟩ : MethodName)) (tw_74 hw) (tw_75 hw) (tw_76 hw) (tw_77 hw) (by decide) (rm12 l Z a0 hw [] (0 : Int32) (0 : Int32) h15 n0 q17) e15 f11_134 (argsL := [(.int (0 : Int32)), (.int (0 : Int32))]) (rest := []) rfl rfl (lenOf pd_3 rfl) rfl (W := 0) (Nat.le_of_eq rfl) (by decide) (by decide) (by decide) (by decide) ?_
  intro v16 T16 L16 X16 q16
  obtain ⟨rfl, Nq16, eq16⟩ := q16
  have N16 := Fr.app N15 Nq16
  show Go p e below s _ _ _ T16 (mkF m 137 #[.val (.ref a), .val (.int (Int32.ofInt x1)), .val (.int (2 : Int32)), .val (.int (Int32.ofInt x1)), .val (.int (0 : Int32)), .val (.int (0 : Int32)), .val (.int (Int32.ofInt x1)), .val (.int (0 : Int32)), .unset, .unset] [(.int (R12 (0 : Int32) (0 : Int32)))])
  refine own_foldI (z := (0 : Int32)) (by decide) ?_
  refine wistore C X16 f11_137 #[.val (.ref a), .val (.int (Int32.ofInt x1)), .val (.int (2 : Int32)), .val (.int (Int32.ofInt x1)), .val (.int (0 : Int32)), .val (.int (0 : Int32)), .val (.int (Int32.ofInt x1)), .val (.int (0 : Int32)), .unset, .unset] rfl ?_
  refine wiinc C X16 f11_139 (1 : Int32) (by decide) rfl #[.val (.ref a), .val (.int (Int32.ofInt x1)), .val (.int (2 : Int32)), .val (.int (Int32.ofInt x1)), .val (.int (0 : Int32)), .val (.int (1 : Int32)), .val (.int (Int32.ofInt x1)), .val (.int (0 : Int32)), .unset, .unset] rfl ?_
  refine wgoto C X16 f11_142 ?_
  refine wiload C X16 f11_32 rfl ?_
  refine wiloadN C X16 f11_34 rfl ?_
  refine wicmp_ge C X16 f11_35 ?_ (fun q => absurd (by decide : ((1 : Int32) < (2 : Int32))) q)
  intro _
  refine waloadN C X16 f11_38 rfl rfl ?_
  refine wget C X16 (host := "") (Or.inl (tw_33 hw)) Via.refl eq16 (q8.other W15 (Or.inl ne_a_rd)) f11_39 ?_
  intro T18 X18 e18
  refine wiload C X18 f11_42 rfl ?_
  refine wiaload C X18 e18 (V5.other W15 (Ne.symm ne_rd_ro)) f11_44 ⟨by decide, by decide⟩ (i := 1) rfl (v := (Int32.ofInt x2)) (own_ar_at (by decide) (own_us _ _ _)) ?_
  refine wistore C X18 f11_45 #[.val (.ref a), .val (.int (Int32.ofInt x1)), .val (.int (2 : Int32)), .val (.int (Int32.ofInt x1)), .val (.int (0 : Int32)), .val (.int (1 : Int32)), .val (.int (Int32.ofInt x2)), .val (.int (0 : Int32)), .unset, .unset] rfl ?_
  refine waloadN C X18 f11_47 rfl rfl ?_
  refine wget C X18 (host := "") (Or.inl (tw_26 hw)) Via.refl e18 (q10.other W15 (Or.inl ne_a_rd)) f11_48 ?_
  intro T19 X19 e19
  refine wiload C X19 f11_51 rfl ?_
  have q20 := (((Arv_16.other W2 ne_de_ro).other W5 ne_de_ro).other W15 ne_de_rd)
  refine wiaload C X19 e19 q20 f11_53 (own_fx _ (by omega)) (i := x2) (own_fc _ (by omega)) (v := (0 : Int32)) (own_vi (own_ar_at (by omega) (eD2)) (by decide)) ?_
  refine wistore C X19 f11_54 #[.val (.ref a), .val (.int (Int32.ofInt x1)), .val (.int (2 : Int32)), .val (.int (Int32.ofInt x1)), .val (.int (0 : Int32)), .val (.int (1 : Int32)), .val (.int (Int32.ofInt x2)), .val (.int (0 : Int32)), .unset, .unset] rfl ?_
  refine waloadN C X19 f11_56 rfl rfl ?_
  refine wget C X19 (host := "") (Or.inl (tw_11 hw)) Via.refl e19 (q12.other W15 (Or.inl ne_a_rd)) f11_57 ?_
  intro T21 X21 e21
  refine wiload C X21 f11_60 rfl ?_
  refine wiaload C X21 e21 V15 f11_62 ⟨by decide, by decide⟩ (i := 0) rfl (v := (Int32.ofInt x1)) (own_ar_at (by decide) (own_us _ _ _)) ?_
  refine wiconst C X21 f11_63 (-1 : Int32) rfl ?_
  refine wicmp_eq C X21 f11_64 (fun q => absurd q (own_fm _ (by omega))) ?_
  intro _
  refine waloadN C X21 f11_67 rfl rfl ?_
  refine wget C X21 (host := "") (Or.inl (tw_11 hw)) Via.refl e21 (q12.other W15 (Or.inl ne_a_rd)) f11_68 ?_
  intro T22 X22 e22
  refine wiload C X22 f11_71 rfl ?_
  refine wiaload C X22 e22 V15 f11_73 ⟨by decide, by decide⟩ (i := 0) rfl (v := (Int32.ofInt x1)) (own_ar_at (by decide) (own_us _ _ _)) ?_
  refine wistore C X22 f11_74 #[.val (.ref a), .val (.int (Int32.ofInt x1)), .val (.int (2 : Int32)), .val (.int (Int32.ofInt x1)), .val (.int (0 : Int32)), .val (.int (1 : Int32)), .val (.int (Int32.ofInt x2)), .val (.int (0 : Int32)), .val (.int (Int32.ofInt x1)), .unset] rfl ?_
  refine waloadN C X22 f11_76 rfl rfl ?_
  refine wiload C X22 f11_77 rfl ?_
  refine wiload C X22 f11_79 rfl ?_
  have q24 := (((Fld_1.other W2 (Or.inl ne_a_ro)).other W5 (Or.inl ne_a_ro)).other W15 (Or.inl ne_a_rd))
  have q25 := (((Arv_20.other W2 ne_ky_ro).other W5 ne_ky_ro).other W15 ne_ky_rd)
  refine wprivateI C X22 (y := (⟨"com/example/hornwork/hornwork/FibonacciHeap", "before", "(II)Z"⟩ : MethodName)) (tw_57 hw) (tw_58 hw) (tw_2 hw) (tw_59 hw) (tw_60 hw) (tw_3 hw) (by decide) (rm8 l Z a0 hw [] a x1 x2 ky kky kf K h15 n0 q17 q24 q25 (by omega) (by omega) hK) e22 (a := a) (((Exa_0.wr W2).wr W5).wr W15) f11_81 (argsL := [(.int (Int32.ofInt x1)), (.int (Int32.ofInt x2))]) (rest := []) rfl rfl (lenOf pd_2 rfl) rfl (W := 0) (Nat.le_of_eq rfl) (by decide) (by decide) (by decide) (by decide) ?_
  intro v23 T23 L23 X23 q23
  obtain ⟨rfl, Nq23, eq23⟩ := q23
  have N23 := Fr.app N16 Nq23
  show Go p e below s _ _ _ T23 (mkF m 84 #[.val (.ref a), .val (.int (Int32.ofInt x1)), .val (.int (2 : Int32)), .val (.int (Int32.ofInt x1)), .val (.int (0 : Int32)), .val (.int (1 : Int32)), .val (.int (Int32.ofInt x2)), .val (.int (0 : Int32)), .val (.int (Int32.ofInt x1)), .unset] [(.int (own_bf K x1 x2))])
  refine wif_eq C X23 f11_84 (fun hc84 => ?_) (fun hc84 => ?_)
  · refine waloadN C X23 f11_99 rfl rfl ?_
    refine wiload C X23 f11_100 rfl ?_
    refine wiload C X23 f11_102 rfl ?_
    have q27 := (((Fld_4.other W2 (Or.inl ne_a_ro)).other W5 (Or.inl ne_a_ro)).other W15 (Or.inl ne_a_rd))
    have q28 := (((Fld_3.other W2 (Or.inl ne_a_ro)).other W5 (Or.inl ne_a_ro)).other W15 (Or.inl ne_a_rd))
    have q29 := (((Fld_2.other W2 (Or.inl ne_a_ro)).other W5 (Or.inl ne_a_ro)).other W15 (Or.inl ne_a_rd))
    have q30 := (((Fld_7.other W2 (Or.inl ne_a_ro)).other W5 (Or.inl ne_a_ro)).other W15 (Or.inl ne_a_rd))
    have q31 := (((Arv_12.other W2 ne_ri_ro).other W5 ne_ri_ro).other W15 (Ne.symm ne_rd_ri))
    have q32 := (((Arv_13.other W2 ne_le_ro).other W5 ne_le_ro).other W15 ne_le_rd)
    have q33 := (((Arv_14.other W2 ne_ch_ro).other W5 ne_ch_ro).other W15 ne_ch_rd)
    have q34 := (((Arv_15.other W2 ne_pa_ro).other W5 ne_pa_ro).other W15 ne_pa_rd)
    have q35 := (((Arv_17.other W2 ne_mk_ro).other W5 ne_mk_ro).other W15 ne_mk_rd)
    refine wprivateI C X23 (y := (⟨"com/example/hornwork/hornwork/FibonacciHeap", "link", "(II)V"⟩ : MethodName)) (tw_78 hw) (tw_79 hw) (tw_2 hw) (tw_80 hw) (tw_81 hw) (tw_3 hw) (by decide) (rm13 l Z a0 hw [] a x1 x2 ri le ch pa de mk kri kle kch kpa kde kmk RI LE CH PA DE MK x2 x2 h15 n0 q17 (((Exa_0.wr W2).wr W5).wr W15) (q6.other W15 (Or.inl ne_a_rd)) q27 q28 q29 (q10.other W15 (Or.inl ne_a_rd)) q30 q31 q32 q33 q34 q20 q35 ge_22 ge_23 ge_24 ge_25 ge_26 ge_27 (by omega) (by omega) (by omega) (by omega) (by omega) (by omega) (eR1) (eL1) (eC2) (eD2) ne_a_ri ne_le_ri ne_a_le ne_ch_le ne_ch_ri ne_a_ch ne_le_pa ne_pa_ri ne_ch_pa ne_a_pa ne_de_le ne_de_ri ne_ch_de ne_de_pa ne_a_de ne_le_mk ne_mk_ri ne_ch_mk ne_mk_pa ne_de_mk) eq23 (a := a) (((Exa_0.wr W2).wr W5).wr W15) f11_104 (argsL := [(.int (Int32.ofInt x1)), (.int (Int32.ofInt x2))]) (rest := []) rfl rfl (lenOf pd_1 rfl) rfl (W := 0) (Nat.le_of_eq rfl) (by decide) (by decide) (by decide) (by decide) ?_
    intro v26 T26 L26 X26 q26
    obtain ⟨rfl, Nq26, K26, G26_0, G26_1, G26_2, G26_3, G26_4, G26_5⟩ := q26
    have q36 := (Nat.le_trans (Nat.le_trans (Nat.le_trans (Nat.le_refl h0.size) (Nat.le_of_eq W2.size.symm)) (Nat.le_of_eq W5.size.symm)) (Nat.le_of_eq W15.size.symm))
    have N26 := Fr.app N23 Nq26
    show Go p e below s _ _ _ T26 (mkF m 107 #[.val (.ref a), .val (.int (Int32.ofInt x1)), .val (.int (2 : Int32)), .val (.int (Int32.ofInt x1)), .val (.int (0 : Int32)), .val (.int (1 : Int32)), .val (.int (Int32.ofInt x2)), .val (.int (0 : Int32)), .val (.int (Int32.ofInt x1)), .unset] [])
    refine waloadN C X26 f11_107 rfl rfl ?_
    have q37 := ((q12.other W15 (Or.inl ne_a_rd)).keep K26 (ninS ne_a_ri (ninS ne_a_le (ninS ne_a_ch (ninS ne_a_pa (ninS ne_a_de (ninS ne_a_mk nin0)))))))
    refine wget C X26 (host := "") (Or.inl (tw_11 hw)) Via.refl rfl q37 f11_108 ?_
    intro T38 X38 e38
    refine wiload C X38 f11_111 rfl ?_
    refine wiinc C X38 f11_113 (1 : Int32) (by decide) rfl #[.val (.ref a), .val (.int (Int32.ofInt x1)), .val (.int (2 : Int32)), .val (.int (Int32.ofInt x1)), .val (.int (0 : Int32)), .val (.int (1 : Int32)), .val (.int (Int32.ofInt x2)), .val (.int (1 : Int32)), .val (.int (Int32.ofInt x1)), .unset] rfl ?_
    refine wiconst C X38 f11_116 (-1 : Int32) rfl ?_
    have q39 := (V15.keep K26 (ninS ne_rd_ri (ninS (Ne.symm ne_le_rd) (ninS (Ne.symm ne_ch_rd) (ninS (Ne.symm ne_pa_rd) (ninS (Ne.symm ne_de_rd) (ninS (Ne.symm ne_mk_rd) nin0)))))))
    refine wiastore C X38 e38 q39 f11_117 ⟨by decide, by decide⟩ 0 rfl (by rw [own_ar_len]; omega) (own_ar 64 (own_upd (own_upd RD 0 x1) 0 (-1))) (own_ar_set (by decide) (by decide)) ?_
    intro T40 h40 sl40 w40 X40 e40 W40 V40
    have N40 := Fr.snoc X40 N26 ge_29
    refine wgoto C X40 f11_118 ?_
    refine waloadN C X40 f11_56 rfl rfl ?_
    refine wget C X40 (host := "") (Or.inl (tw_11 hw)) Via.refl e40 (q37.other W40 (Or.inl ne_a_rd)) f11_57 ?_
    intro T41 X41 e41
    refine wiload C X41 f11_60 rfl ?_
    refine wiaload C X41 e41 V40 f11_62 ⟨by decide, by decide⟩ (i := 1) rfl (v := (-1 : Int32)) (own_vi (own_ar_at (by decide) ((own_un (by decide)).trans ((own_un (by decide)).trans (eZ1)))) (by decide)) ?_
    refine wiconst C X41 f11_63 (-1 : Int32) rfl ?_
    refine wicmp_eq C X41 f11_64 ?_ (fun q => absurd (by decide : ((-1 : Int32) = (-1 : Int32))) q)
    intro _
    refine waloadN C X41 f11_121 rfl rfl ?_
    refine wget C X41 (host := "") (Or.inl (tw_11 hw)) Via.refl e41 (q37.other W40 (Or.inl ne_a_rd)) f11_122 ?_
    intro T42 X42 e42
    refine wiload C X42 f11_125 rfl ?_
    refine wiload C X42 f11_127 rfl ?_
    refine wiastore C X42 e42 V40 f11_129 ⟨by decide, by decide⟩ 1 rfl (by rw [own_ar_len]; omega) (own_ar 64 (own_upd (own_upd (own_upd RD 0 x1) 0 (-1)) 1 x2)) (own_ar_set (by decide) rfl) ?_
    intro T43 h43 sl43 w43 X43 e43 W43 V43
    have N43 := Fr.snoc X43 N40 ge_29
    refine wiload C X43 f11_130 rfl ?_
    refine wiload C X43 f11_132 rfl ?_
    have q45 := (Nat.le_trans (Nat.le_trans (Nat.le_trans q17 K26.1) (Nat.le_of_eq W40.size.symm)) (Nat.le_of_eq W43.size.symm))
    refine wstatic C X43 (y := (⟨"java/lang/Math", "max", "(II)I"⟩ : MethodName)) (tw_74 hw) (tw_75 hw) (tw_76 hw) (tw_77 hw) (by decide) (rm12 l Z a0 hw [] (0 : Int32) (1 : Int32) h43 n0 q45) e43 f11_134 (argsL := [(.int (0 : Int32)), (.int (1 : Int32))]) (rest := []) rfl rfl (lenOf pd_3 rfl) rfl (W := 0) (Nat.le_of_eq rfl) (by decide) (by decide) (by decide) (by decide) ?_
    intro v44 T44 L44 X44 q44
    obtain ⟨rfl, Nq44, eq44⟩ := q44
    have N44 := Fr.app N43 Nq44
    show Go p e below s _ _ _ T44 (mkF m 137 #[.val (.ref a), .val (.int (Int32.ofInt x1)), .val (.int (2 : Int32)), .val (.int (Int32.ofInt x1)), .val (.int (0 : Int32)), .val (.int (1 : Int32)), .val (.int (Int32.ofInt x2)), .val (.int (1 : Int32)), .val (.int (Int32.ofInt x1)), .unset] [(.int (R12 (0 : Int32) (1 : Int32)))])
    refine own_foldI (z := (1 : Int32)) (by decide) ?_
    refine wistore C X44 f11_137 #[.val (.ref a), .val (.int (Int32.ofInt x1)), .val (.int (2 : Int32)), .val (.int (Int32.ofInt x1)), .val (.int (1 : Int32)), .val (.int (1 : Int32)), .val (.int (Int32.ofInt x2)), .val (.int (1 : Int32)), .val (.int (Int32.ofInt x1)), .unset] rfl ?_
    refine wiinc C X44 f11_139 (2 : Int32) (by decide) rfl #[.val (.ref a), .val (.int (Int32.ofInt x1)), .val (.int (2 : Int32)), .val (.int (Int32.ofInt x1)), .val (.int (1 : Int32)), .val (.int (2 : Int32)), .val (.int (Int32.ofInt x2)), .val (.int (1 : Int32)), .val (.int (Int32.ofInt x1)), .unset] rfl ?_
    refine wgoto C X44 f11_142 ?_
    refine wiload C X44 f11_32 rfl ?_
    refine wiloadN C X44 f11_34 rfl ?_
    refine wicmp_ge C X44 f11_35 (fun q => absurd q (by decide : ¬ ((2 : Int32) < (2 : Int32)))) ?_
    intro _
    refine waloadN C X44 f11_145 rfl rfl ?_
    refine wiconst C X44 f11_146 (-1 : Int32) rfl ?_
    have q46 := ((((((Fld_11.other W2 (Or.inl ne_a_ro)).other W5 (Or.inl ne_a_ro)).other W15 (Or.inl ne_a_rd)).keep K26 (ninS ne_a_ri (ninS ne_a_le (ninS ne_a_ch (ninS ne_a_pa (ninS ne_a_de (ninS ne_a_mk nin0))))))).other W40 (Or.inl ne_a_rd)).other W43 (Or.inl ne_a_rd))
    refine wput C X44 (host := "") (Or.inl (tw_13 hw)) Via.refl eq44 q46 ((((((Exa_0.wr W2).wr W5).wr W15).keep K26).wr W40).wr W43) (Or.inl (tw_14 hw)) (tw_2 hw) (ty := .int) (by decide) rfl rfl f11_147 ?_
    intro T47 h47 X47 e47 W47
    have Fw47 := q46.same W47
    have N47 := Fr.snoc X47 N44 ge_21
    refine wiconst C X47 f11_150 (0 : Int32) rfl ?_
    refine wistore C X47 f11_151 #[.val (.ref a), .val (.int (Int32.ofInt x1)), .val (.int (2 : Int32)), .val (.int (Int32.ofInt x1)), .val (.int (1 : Int32)), .val (.int (0 : Int32)), .val (.int (Int32.ofInt x2)), .val (.int (1 : Int32)), .val (.int (Int32.ofInt x1)), .unset] rfl ?_
    refine wiload C X47 f11_153 rfl ?_
    refine wiload C X47 f11_155 rfl ?_
    refine wicmp_gt C X47 f11_157 (fun q => absurd q (by decide : ¬ ((1 : Int32) < (0 : Int32)))) ?_
    intro _
    refine waloadN C X47 f11_160 rfl rfl ?_
    have q48 := (((q37.other W40 (Or.inl ne_a_rd)).other W43 (Or.inl ne_a_rd)).other W47 (Or.inr (slot_ne (Or.inr (tw_12 hw)) (Or.inl (tw_14 hw)) (by decide) (t := (.array .int)) (t' := .int) (by decide) (by decide))))
    refine wget C X47 (host := "") (Or.inl (tw_11 hw)) Via.refl e47 q48 f11_161 ?_
    intro T49 X49 e49
    refine wiload C X49 f11_164 rfl ?_
    refine wiaload C X49 e49 (V43.other W47 (Ne.symm ne_a_rd)) f11_166 ⟨by decide, by decide⟩ (i := 0) rfl (v := (-1 : Int32)) (own_vi (own_ar_at (by decide) ((own_un (by decide)).trans (own_us _ _ _))) (by decide)) ?_
    refine wistore C X49 f11_167 #[.val (.ref a), .val (.int (Int32.ofInt x1)), .val (.int (2 : Int32)), .val (.int (Int32.ofInt x1)), .val (.int (1 : Int32)), .val (.int (0 : Int32)), .val (.int (-1 : Int32)), .val (.int (1 : Int32)), .val (.int (Int32.ofInt x1)), .unset] rfl ?_
    refine wiload C X49 f11_169 rfl ?_
    refine wiconst C X49 f11_171 (-1 : Int32) rfl ?_
    refine wicmp_eq C X49 f11_172 ?_ (fun q => absurd (by decide : ((-1 : Int32) = (-1 : Int32))) q)
    intro _
    refine waloadN C X49 f11_202 rfl rfl ?_
    refine wget C X49 (host := "") (Or.inl (tw_11 hw)) Via.refl e49 q48 f11_203 ?_
    intro T50 X50 e50
    refine wiload C X50 f11_206 rfl ?_
    refine wiconst C X50 f11_208 (-1 : Int32) rfl ?_
    refine wiastore C X50 e50 (V43.other W47 (Ne.symm ne_a_rd)) f11_209 ⟨by decide, by decide⟩ 0 rfl (by rw [own_ar_len]; omega) (own_ar 64 (own_upd (own_upd (own_upd (own_upd RD 0 x1) 0 (-1)) 1 x2) 0 (-1))) (own_ar_set (by decide) (by decide)) ?_
    intro T51 h51 sl51 w51 X51 e51 W51 V51
    have N51 := Fr.snoc X51 N47 ge_29
    refine wiinc C X51 f11_210 (1 : Int32) (by decide) rfl #[.val (.ref a), .val (.int (Int32.ofInt x1)), .val (.int (2 : Int32)), .val (.int (Int32.ofInt x1)), .val (.int (1 : Int32)), .val (.int (1 : Int32)), .val (.int (-1 : Int32)), .val (.int (1 : Int32)), .val (.int (Int32.ofInt x1)), .unset] rfl ?_
    refine wgoto C X51 f11_213 ?_
    refine wiload C X51 f11_153 rfl ?_
    refine wiload C X51 f11_155 rfl ?_
    refine wicmp_gt C X51 f11_157 (fun q => absurd q (by decide : ¬ ((1 : Int32) < (1 : Int32)))) ?_
    intro _
    refine waloadN C X51 f11_160 rfl rfl ?_
    refine wget C X51 (host := "") (Or.inl (tw_11 hw)) Via.refl e51 (q48.other W51 (Or.inl ne_a_rd)) f11_161 ?_
    intro T52 X52 e52
    refine wiload C X52 f11_164 rfl ?_
    refine wiaload C X52 e52 V51 f11_166 ⟨by decide, by decide⟩ (i := 1) rfl (v := (Int32.ofInt x2)) (own_ar_at (by decide) ((own_un (by decide)).trans (own_us _ _ _))) ?_
    refine wistore C X52 f11_167 #[.val (.ref a), .val (.int (Int32.ofInt x1)), .val (.int (2 : Int32)), .val (.int (Int32.ofInt x1)), .val (.int (1 : Int32)), .val (.int (1 : Int32)), .val (.int (Int32.ofInt x2)), .val (.int (1 : Int32)), .val (.int (Int32.ofInt x1)), .unset] rfl ?_
    refine wiload C X52 f11_169 rfl ?_
    refine wiconst C X52 f11_171 (-1 : Int32) rfl ?_
    refine wicmp_eq C X52 f11_172 (fun q => absurd q (own_fm _ (by omega))) ?_
    intro _
    refine waloadN C X52 f11_175 rfl rfl ?_
    refine wget C X52 (host := "") (Or.inl (tw_13 hw)) Via.refl e52 (Fw47.other W51 (Or.inl ne_a_rd)) f11_176 ?_
    intro T53 X53 e53
    refine wiconst C X53 f11_179 (-1 : Int32) rfl ?_
    refine wicmp_eq C X53 f11_180 ?_ (fun q => absurd (by decide : ((-1 : Int32) = (-1 : Int32))) q)
    intro _
    refine waloadN C X53 f11_196 rfl rfl ?_
    refine wiload C X53 f11_197 rfl ?_
    have q54 := ((((((((Exa_0.wr W2).wr W5).wr W15).keep K26).wr W40).wr W43).wr W47).wr W51)
    refine wput C X53 (host := "") (Or.inl (tw_13 hw)) Via.refl e53 (Fw47.other W51 (Or.inl ne_a_rd)) q54 (Or.inl (tw_14 hw)) (tw_2 hw) (ty := .int) (by decide) rfl rfl f11_199 ?_
    intro T55 h55 X55 e55 W55
    have Fw55 := (Fw47.other W51 (Or.inl ne_a_rd)).same W55
    have N55 := Fr.snoc X55 N51 ge_21
    refine waloadN C X55 f11_202 rfl rfl ?_
    have q56 := ((q48.other W51 (Or.inl ne_a_rd)).other W55 (Or.inr (slot_ne (Or.inr (tw_12 hw)) (Or.inl (tw_14 hw)) (by decide) (t := (.array .int)) (t' := .int) (by decide) (by decide))))
    refine wget C X55 (host := "") (Or.inl (tw_11 hw)) Via.refl e55 q56 f11_203 ?_
    intro T57 X57 e57
    refine wiload C X57 f11_206 rfl ?_
    refine wiconst C X57 f11_208 (-1 : Int32) rfl ?_
    refine wiastore C X57 e57 (V51.other W55 (Ne.symm ne_a_rd)) f11_209 ⟨by decide, by decide⟩ 1 rfl (by rw [own_ar_len]; omega) (own_ar 64 (own_upd (own_upd (own_upd (own_upd (own_upd RD 0 x1) 0 (-1)) 1 x2) 0 (-1)) 1 (-1))) (own_ar_set (by decide) (by decide)) ?_
    intro T58 h58 sl58 w58 X58 e58 W58 V58
    have N58 := Fr.snoc X58 N55 ge_29
    refine wiinc C X58 f11_210 (2 : Int32) (by decide) rfl #[.val (.ref a), .val (.int (Int32.ofInt x1)), .val (.int (2 : Int32)), .val (.int (Int32.ofInt x1)), .val (.int (1 : Int32)), .val (.int (2 : Int32)), .val (.int (Int32.ofInt x2)), .val (.int (1 : Int32)), .val (.int (Int32.ofInt x1)), .unset] rfl ?_
    refine wgoto C X58 f11_213 ?_
    refine wiload C X58 f11_153 rfl ?_
    refine wiload C X58 f11_155 rfl ?_
    refine wicmp_gt C X58 f11_157 ?_ (fun q => absurd (by decide : ((1 : Int32) < (2 : Int32))) q)
    intro _
    refine wret C X58 f11_216 rfl (by decide) (by decide) ?_
    rw [e58]
    have q59 := (((((((((((Keep.refl h0 [ri, le, ch, pa, de, mk, ro, rd, a]).wr W2 (Or.inl (List.mem_of_getElem? (i := 6) rfl))).wr W5 (Or.inl (List.mem_of_getElem? (i := 6) rfl))).wr W15 (Or.inl (List.mem_of_getElem? (i := 7) rfl))).trans K26 (allS (Or.inl (List.mem_of_getElem? (i := 0) rfl)) (allS (Or.inl (List.mem_of_getElem? (i := 1) rfl)) (allS (Or.inl (List.mem_of_getElem? (i := 2) rfl)) (allS (Or.inl (List.mem_of_getElem? (i := 3) rfl)) (allS (Or.inl (List.mem_of_getElem? (i := 4) rfl)) (allS (Or.inl (List.mem_of_getElem? (i := 5) rfl)) all0))))))).wr W40 (Or.inl (List.mem_of_getElem? (i := 7) rfl))).wr W43 (Or.inl (List.mem_of_getElem? (i := 7) rfl))).wr W47 (Or.inl (List.mem_of_getElem? (i := 8) rfl))).wr W51 (Or.inl (List.mem_of_getElem? (i := 7) rfl))).wr W55 (Or.inl (List.mem_of_getElem? (i := 8) rfl))).wr W58 (Or.inl (List.mem_of_getElem? (i := 7) rfl)))
    have q60 := (((((((q24.keep K26 (ninS ne_a_ri (ninS ne_a_le (ninS ne_a_ch (ninS ne_a_pa (ninS ne_a_de (ninS ne_a_mk nin0))))))).other W40 (Or.inl ne_a_rd)).other W43 (Or.inl ne_a_rd)).other W47 (Or.inr (slot_ne (Or.inr (tw_17 hw)) (Or.inl (tw_14 hw)) (by decide) (t := (.array .double)) (t' := .int) (by decide) (by decide)))).other W51 (Or.inl ne_a_rd)).other W55 (Or.inr (slot_ne (Or.inr (tw_17 hw)) (Or.inl (tw_14 hw)) (by decide) (t := (.array .double)) (t' := .int) (by decide) (by decide)))).other W58 (Or.inl ne_a_rd))
    have q61 := (((((((q29.keep K26 (ninS ne_a_ri (ninS ne_a_le (ninS ne_a_ch (ninS ne_a_pa (ninS ne_a_de (ninS ne_a_mk nin0))))))).other W40 (Or.inl ne_a_rd)).other W43 (Or.inl ne_a_rd)).other W47 (Or.inr (slot_ne (Or.inr (tw_19 hw)) (Or.inl (tw_14 hw)) (by decide) (t := (.array .int)) (t' := .int) (by decide) (by decide)))).other W51 (Or.inl ne_a_rd)).other W55 (Or.inr (slot_ne (Or.inr (tw_19 hw)) (Or.inl (tw_14 hw)) (by decide) (t := (.array .int)) (t' := .int) (by decide) (by decide)))).other W58 (Or.inl ne_a_rd))
    have q62 := (((((((q28.keep K26 (ninS ne_a_ri (ninS ne_a_le (ninS ne_a_ch (ninS ne_a_pa (ninS ne_a_de (ninS ne_a_mk nin0))))))).other W40 (Or.inl ne_a_rd)).other W43 (Or.inl ne_a_rd)).other W47 (Or.inr (slot_ne (Or.inr (tw_21 hw)) (Or.inl (tw_14 hw)) (by decide) (t := (.array .int)) (t' := .int) (by decide) (by decide)))).other W51 (Or.inl ne_a_rd)).other W55 (Or.inr (slot_ne (Or.inr (tw_21 hw)) (Or.inl (tw_14 hw)) (by decide) (t := (.array .int)) (t' := .int) (by decide) (by decide)))).other W58 (Or.inl ne_a_rd))
    have q63 := (((((((q27.keep K26 (ninS ne_a_ri (ninS ne_a_le (ninS ne_a_ch (ninS ne_a_pa (ninS ne_a_de (ninS ne_a_mk nin0))))))).other W40 (Or.inl ne_a_rd)).other W43 (Or.inl ne_a_rd)).other W47 (Or.inr (slot_ne (Or.inr (tw_23 hw)) (Or.inl (tw_14 hw)) (by decide) (t := (.array .int)) (t' := .int) (by decide) (by decide)))).other W51 (Or.inl ne_a_rd)).other W55 (Or.inr (slot_ne (Or.inr (tw_23 hw)) (Or.inl (tw_14 hw)) (by decide) (t := (.array .int)) (t' := .int) (by decide) (by decide)))).other W58 (Or.inl ne_a_rd))
    have q64 := ((((((((q6.other W15 (Or.inl ne_a_rd)).keep K26 (ninS ne_a_ri (ninS ne_a_le (ninS ne_a_ch (ninS ne_a_pa (ninS ne_a_de (ninS ne_a_mk nin0))))))).other W40 (Or.inl ne_a_rd)).other W43 (Or.inl ne_a_rd)).other W47 (Or.inr (slot_ne (Or.inr (tw_25 hw)) (Or.inl (tw_14 hw)) (by decide) (t := (.array .int)) (t' := .int) (by decide) (by decide)))).other W51 (Or.inl ne_a_rd)).other W55 (Or.inr (slot_ne (Or.inr (tw_25 hw)) (Or.inl (tw_14 hw)) (by decide) (t := (.array .int)) (t' := .int) (by decide) (by decide)))).other W58 (Or.inl ne_a_rd))
    have q65 := ((((((((q10.other W15 (Or.inl ne_a_rd)).keep K26 (ninS ne_a_ri (ninS ne_a_le (ninS ne_a_ch (ninS ne_a_pa (ninS ne_a_de (ninS ne_a_mk nin0))))))).other W40 (Or.inl ne_a_rd)).other W43 (Or.inl ne_a_rd)).other W47 (Or.inr (slot_ne (Or.inr (tw_27 hw)) (Or.inl (tw_14 hw)) (by decide) (t := (.array .int)) (t' := .int) (by decide) (by decide)))).other W51 (Or.inl ne_a_rd)).other W55 (Or.inr (slot_ne (Or.inr (tw_27 hw)) (Or.inl (tw_14 hw)) (by decide) (t := (.array .int)) (t' := .int) (by decide) (by decide)))).other W58 (Or.inl ne_a_rd))
    have q66 := (((((((q30.keep K26 (ninS ne_a_ri (ninS ne_a_le (ninS ne_a_ch (ninS ne_a_pa (ninS ne_a_de (ninS ne_a_mk nin0))))))).other W40 (Or.inl ne_a_rd)).other W43 (Or.inl ne_a_rd)).other W47 (Or.inr (slot_ne (Or.inr (tw_30 hw)) (Or.inl (tw_14 hw)) (by decide) (t := (.array .boolean)) (t' := .int) (by decide) (by decide)))).other W51 (Or.inl ne_a_rd)).other W55 (Or.inr (slot_ne (Or.inr (tw_30 hw)) (Or.inl (tw_14 hw)) (by decide) (t := (.array .boolean)) (t' := .int) (by decide) (by decide)))).other W58 (Or.inl ne_a_rd))
    have q67 := ((((((((((Fld_8.other W2 (Or.inl ne_a_ro)).other W5 (Or.inl ne_a_ro)).other W15 (Or.inl ne_a_rd)).keep K26 (ninS ne_a_ri (ninS ne_a_le (ninS ne_a_ch (ninS ne_a_pa (ninS ne_a_de (ninS ne_a_mk nin0))))))).other W40 (Or.inl ne_a_rd)).other W43 (Or.inl ne_a_rd)).other W47 (Or.inr (slot_ne (Or.inr (tw_32 hw)) (Or.inl (tw_14 hw)) (by decide) (t := (.array .boolean)) (t' := .int) (by decide) (by decide)))).other W51 (Or.inl ne_a_rd)).other W55 (Or.inr (slot_ne (Or.inr (tw_32 hw)) (Or.inl (tw_14 hw)) (by decide) (t := (.array .boolean)) (t' := .int) (by decide) (by decide)))).other W58 (Or.inl ne_a_rd))
    have q68 := ((((((((q8.other W15 (Or.inl ne_a_rd)).keep K26 (ninS ne_a_ri (ninS ne_a_le (ninS ne_a_ch (ninS ne_a_pa (ninS ne_a_de (ninS ne_a_mk nin0))))))).other W40 (Or.inl ne_a_rd)).other W43 (Or.inl ne_a_rd)).other W47 (Or.inr (slot_ne (Or.inr (tw_34 hw)) (Or.inl (tw_14 hw)) (by decide) (t := (.array .int)) (t' := .int) (by decide) (by decide)))).other W51 (Or.inl ne_a_rd)).other W55 (Or.inr (slot_ne (Or.inr (tw_34 hw)) (Or.inl (tw_14 hw)) (by decide) (t := (.array .int)) (t' := .int) (by decide) (by decide)))).other W58 (Or.inl ne_a_rd))
    have q69 := ((((((G26_0.other W40 (Ne.symm ne_rd_ri)).other W43 (Ne.symm ne_rd_ri)).other W47 (Ne.symm ne_a_ri)).other W51 (Ne.symm ne_rd_ri)).other W55 (Ne.symm ne_a_ri)).other W58 (Ne.symm ne_rd_ri))
    have q70 := ((((((G26_1.other W40 ne_le_rd).other W43 ne_le_rd).other W47 (Ne.symm ne_a_le)).other W51 ne_le_rd).other W55 (Ne.symm ne_a_le)).other W58 ne_le_rd)
    have q71 := ((((((G26_2.other W40 ne_ch_rd).other W43 ne_ch_rd).other W47 (Ne.symm ne_a_ch)).other W51 ne_ch_rd).other W55 (Ne.symm ne_a_ch)).other W58 ne_ch_rd)
    have q72 := ((((((G26_3.other W40 ne_pa_rd).other W43 ne_pa_rd).other W47 (Ne.symm ne_a_pa)).other W51 ne_pa_rd).other W55 (Ne.symm ne_a_pa)).other W58 ne_pa_rd)
    have q73 := ((((((G26_4.other W40 ne_de_rd).other W43 ne_de_rd).other W47 (Ne.symm ne_a_de)).other W51 ne_de_rd).other W55 (Ne.symm ne_a_de)).other W58 ne_de_rd)
    have q74 := ((((((G26_5.other W40 ne_mk_rd).other W43 ne_mk_rd).other W47 (Ne.symm ne_a_mk)).other W51 ne_mk_rd).other W55 (Ne.symm ne_a_mk)).other W58 ne_mk_rd)
    have q75 := ((((((((V5.other W15 (Ne.symm ne_rd_ro)).keep K26 (ninS (Ne.symm ne_ri_ro) (ninS (Ne.symm ne_le_ro) (ninS (Ne.symm ne_ch_ro) (ninS (Ne.symm ne_pa_ro) (ninS (Ne.symm ne_de_ro) (ninS (Ne.symm ne_mk_ro) nin0))))))).other W40 (Ne.symm ne_rd_ro)).other W43 (Ne.symm ne_rd_ro)).other W47 (Ne.symm ne_a_ro)).other W51 (Ne.symm ne_rd_ro)).other W55 (Ne.symm ne_a_ro)).other W58 (Ne.symm ne_rd_ro))
    exact ⟨x2, x1, rfl, N58, q59, ((q54.wr W55).wr W58), q60, q61, q62, q63, q64, q65, q66, q67, q68, (q56.other W58 (Or.inl ne_a_rd)), (Fw55.other W58 (Or.inl ne_a_rd)), q69, q70, q71, q72, q73, q74, q75, V58, (Or.inr ⟨rfl, rfl, own_bft (own_bfn hc84) (by omega)⟩)⟩
  · refine wiload C X23 f11_87 rfl ?_
    refine wistore C X23 f11_89 #[.val (.ref a), .val (.int (Int32.ofInt x1)), .val (.int (2 : Int32)), .val (.int (Int32.ofInt x1)), .val (.int (0 : Int32)), .val (.int (1 : Int32)), .val (.int (Int32.ofInt x2)), .val (.int (0 : Int32)), .val (.int (Int32.ofInt x1)), .val (.int (Int32.ofInt x2))] rfl ?_
    refine wiload C X23 f11_91 rfl ?_
    refine wistore C X23 f11_93 #[.val (.ref a), .val (.int (Int32.ofInt x1)), .val (.int (2 : Int32)), .val (.int (Int32.ofInt x1)), .val (.int (0 : Int32)), .val (.int (1 : Int32)), .val (.int (Int32.ofInt x1)), .val (.int (0 : Int32)), .val (.int (Int32.ofInt x1)), .val (.int (Int32.ofInt x2))] rfl ?_
    refine wiload C X23 f11_95 rfl ?_
    refine wistore C X23 f11_97 #[.val (.ref a), .val (.int (Int32.ofInt x1)), .val (.int (2 : Int32)), .val (.int (Int32.ofInt x1)), .val (.int (0 : Int32)), .val (.int (1 : Int32)), .val (.int (Int32.ofInt x1)), .val (.int (0 : Int32)), .val (.int (Int32.ofInt x2)), .val (.int (Int32.ofInt x2))] rfl ?_
    refine waloadN C X23 f11_99 rfl rfl ?_
    refine wiload C X23 f11_100 rfl ?_
    refine wiload C X23 f11_102 rfl ?_
    have q77 := (((Fld_4.other W2 (Or.inl ne_a_ro)).other W5 (Or.inl ne_a_ro)).other W15 (Or.inl ne_a_rd))
    have q78 := (((Fld_3.other W2 (Or.inl ne_a_ro)).other W5 (Or.inl ne_a_ro)).other W15 (Or.inl ne_a_rd))
    have q79 := (((Fld_2.other W2 (Or.inl ne_a_ro)).other W5 (Or.inl ne_a_ro)).other W15 (Or.inl ne_a_rd))
    have q80 := (((Fld_7.other W2 (Or.inl ne_a_ro)).other W5 (Or.inl ne_a_ro)).other W15 (Or.inl ne_a_rd))
    have q81 := (((Arv_12.other W2 ne_ri_ro).other W5 ne_ri_ro).other W15 (Ne.symm ne_rd_ri))
    have q82 := (((Arv_13.other W2 ne_le_ro).other W5 ne_le_ro).other W15 ne_le_rd)
    have q83 := (((Arv_14.other W2 ne_ch_ro).other W5 ne_ch_ro).other W15 ne_ch_rd)
    have q84 := (((Arv_15.other W2 ne_pa_ro).other W5 ne_pa_ro).other W15 ne_pa_rd)
    have q85 := (((Arv_17.other W2 ne_mk_ro).other W5 ne_mk_ro).other W15 ne_mk_rd)
    refine wprivateI C X23 (y := (⟨"com/example/hornwork/hornwork/FibonacciHeap", "link", "(II)V"⟩ : MethodName)) (tw_78 hw) (tw_79 hw) (tw_2 hw) (tw_80 hw) (tw_81 hw) (tw_3 hw) (by decide) (rm13 l Z a0 hw [] a x2 x1 ri le ch pa de mk kri kle kch kpa kde kmk RI LE CH PA DE MK x1 x1 h15 n0 q17 (((Exa_0.wr W2).wr W5).wr W15) (q6.other W15 (Or.inl ne_a_rd)) q77 q78 q79 (q10.other W15 (Or.inl ne_a_rd)) q80 q81 q82 q83 q84 q20 q85 ge_22 ge_23 ge_24 ge_25 ge_26 ge_27 (by omega) (by omega) (by omega) (by omega) (by omega) (by omega) (eR2) (eL2) (eC1) (eD1) ne_a_ri ne_le_ri ne_a_le ne_ch_le ne_ch_ri ne_a_ch ne_le_pa ne_pa_ri ne_ch_pa ne_a_pa ne_de_le ne_de_ri ne_ch_de ne_de_pa ne_a_de ne_le_mk ne_mk_ri ne_ch_mk ne_mk_pa ne_de_mk) eq23 (a := a) (((Exa_0.wr W2).wr W5).wr W15) f11_104 (argsL := [(.int (Int32.ofInt x2)), (.int (Int32.ofInt x1))]) (rest := []) rfl rfl (lenOf pd_1 rfl) rfl (W := 0) (Nat.le_of_eq rfl) (by decide) (by decide) (by decide) (by decide) ?_
    intro v76 T76 L76 X76 q76
    obtain ⟨rfl, Nq76, K76, G76_0, G76_1, G76_2, G76_3, G76_4, G76_5⟩ := q76
    have q86 := (Nat.le_trans (Nat.le_trans (Nat.le_trans (Nat.le_refl h0.size) (Nat.le_of_eq W2.size.symm)) (Nat.le_of_eq W5.size.symm)) (Nat.le_of_eq W15.size.symm))
    have N76 := Fr.app N23 Nq76
    show Go p e below s _ _ _ T76 (mkF m 107 #[.val (.ref a), .val (.int (Int32.ofInt x1)), .val (.int (2 : Int32)), .val (.int (Int32.ofInt x1)), .val (.int (0 : Int32)), .val (.int (1 : Int32)), .val (.int (Int32.ofInt x1)), .val (.int (0 : Int32)), .val (.int (Int32.ofInt x2)), .val (.int (Int32.ofInt x2))] [])
    refine waloadN C X76 f11_107 rfl rfl ?_
    have q87 := ((q12.other W15 (Or.inl ne_a_rd)).keep K76 (ninS ne_a_ri (ninS ne_a_le (ninS ne_a_ch (ninS ne_a_pa (ninS ne_a_de (ninS ne_a_mk nin0)))))))
    refine wget C X76 (host := "") (Or.inl (tw_11 hw)) Via.refl rfl q87 f11_108 ?_
    intro T88 X88 e88
    refine wiload C X88 f11_111 rfl ?_
    refine wiinc C X88 f11_113 (1 : Int32) (by decide) rfl #[.val (.ref a), .val (.int (Int32.ofInt x1)), .val (.int (2 : Int32)), .val (.int (Int32.ofInt x1)), .val (.int (0 : Int32)), .val (.int (1 : Int32)), .val (.int (Int32.ofInt x1)), .val (.int (1 : Int32)), .val (.int (Int32.ofInt x2)), .val (.int (Int32.ofInt x2))] rfl ?_
    refine wiconst C X88 f11_116 (-1 : Int32) rfl ?_
    have q89 := (V15.keep K76 (ninS ne_rd_ri (ninS (Ne.symm ne_le_rd) (ninS (Ne.symm ne_ch_rd) (ninS (Ne.symm ne_pa_rd) (ninS (Ne.symm ne_de_rd) (ninS (Ne.symm ne_mk_rd) nin0)))))))
    refine wiastore C X88 e88 q89 f11_117 ⟨by decide, by decide⟩ 0 rfl (by rw [own_ar_len]; omega) (own_ar 64 (own_upd (own_upd RD 0 x1) 0 (-1))) (own_ar_set (by decide) (by decide)) ?_
    intro T90 h90 sl90 w90 X90 e90 W90 V90
    have N90 := Fr.snoc X90 N76 ge_29
    refine wgoto C X90 f11_118 ?_
    refine waloadN C X90 f11_56 rfl rfl ?_
    refine wget C X90 (host := "") (Or.inl (tw_11 hw)) Via.refl e90 (q87.other W90 (Or.inl ne_a_rd)) f11_57 ?_
    intro T91 X91 e91
    refine wiload C X91 f11_60 rfl ?_
    refine wiaload C X91 e91 V90 f11_62 ⟨by decide, by decide⟩ (i := 1) rfl (v := (-1 : Int32)) (own_vi (own_ar_at (by decide) ((own_un (by decide)).trans ((own_un (by decide)).trans (eZ1)))) (by decide)) ?_
    refine wiconst C X91 f11_63 (-1 : Int32) rfl ?_
    refine wicmp_eq C X91 f11_64 ?_ (fun q => absurd (by decide : ((-1 : Int32) = (-1 : Int32))) q)
    intro _
    refine waloadN C X91 f11_121 rfl rfl ?_
    refine wget C X91 (host := "") (Or.inl (tw_11 hw)) Via.refl e91 (q87.other W90 (Or.inl ne_a_rd)) f11_122 ?_
    intro T92 X92 e92
    refine wiload C X92 f11_125 rfl ?_
    refine wiload C X92 f11_127 rfl ?_
    refine wiastore C X92 e92 V90 f11_129 ⟨by decide, by decide⟩ 1 rfl (by rw [own_ar_len]; omega) (own_ar 64 (own_upd (own_upd (own_upd RD 0 x1) 0 (-1)) 1 x1)) (own_ar_set (by decide) rfl) ?_
    intro T93 h93 sl93 w93 X93 e93 W93 V93
    have N93 := Fr.snoc X93 N90 ge_29
    refine wiload C X93 f11_130 rfl ?_
    refine wiload C X93 f11_132 rfl ?_
    have q95 := (Nat.le_trans (Nat.le_trans (Nat.le_trans q17 K76.1) (Nat.le_of_eq W90.size.symm)) (Nat.le_of_eq W93.size.symm))
    refine wstatic C X93 (y := (⟨"java/lang/Math", "max", "(II)I"⟩ : MethodName)) (tw_74 hw) (tw_75 hw) (tw_76 hw) (tw_77 hw) (by decide) (rm12 l Z a0 hw [] (0 : Int32) (1 : Int32) h93 n0 q95) e93 f11_134 (argsL := [(.int (0 : Int32)), (.int (1 : Int32))]) (rest := []) rfl rfl (lenOf pd_3 rfl) rfl (W := 0) (Nat.le_of_eq rfl) (by decide) (by decide) (by decide) (by decide) ?_
    intro v94 T94 L94 X94 q94
    obtain ⟨rfl, Nq94, eq94⟩ := q94
    have N94 := Fr.app N93 Nq94
    show Go p e below s _ _ _ T94 (mkF m 137 #[.val (.ref a), .val (.int (Int32.ofInt x1)), .val (.int (2 : Int32)), .val (.int (Int32.ofInt x1)), .val (.int (0 : Int32)), .val (.int (1 : Int32)), .val (.int (Int32.ofInt x1)), .val (.int (1 : Int32)), .val (.int (Int32.ofInt x2)), .val (.int (Int32.ofInt x2))] [(.int (R12 (0 : Int32) (1 : Int32)))])
    refine own_foldI (z := (1 : Int32)) (by decide) ?_
    refine wistore C X94 f11_137 #[.val (.ref a), .val (.int (Int32.ofInt x1)), .val (.int (2 : Int32)), .val (.int (Int32.ofInt x1)), .val (.int (1 : Int32)), .val (.int (1 : Int32)), .val (.int (Int32.ofInt x1)), .val (.int (1 : Int32)), .val (.int (Int32.ofInt x2)), .val (.int (Int32.ofInt x2))] rfl ?_
    refine wiinc C X94 f11_139 (2 : Int32) (by decide) rfl #[.val (.ref a), .val (.int (Int32.ofInt x1)), .val (.int (2 : Int32)), .val (.int (Int32.ofInt x1)), .val (.int (1 : Int32)), .val (.int (2 : Int32)), .val (.int (Int32.ofInt x1)), .val (.int (1 : Int32)), .val (.int (Int32.ofInt x2)), .val (.int (Int32.ofInt x2))] rfl ?_
    refine wgoto C X94 f11_142 ?_
    refine wiload C X94 f11_32 rfl ?_
    refine wiloadN C X94 f11_34 rfl ?_
    refine wicmp_ge C X94 f11_35 (fun q => absurd q (by decide : ¬ ((2 : Int32) < (2 : Int32)))) ?_
    intro _
    refine waloadN C X94 f11_145 rfl rfl ?_
    refine wiconst C X94 f11_146 (-1 : Int32) rfl ?_
    have q96 := ((((((Fld_11.other W2 (Or.inl ne_a_ro)).other W5 (Or.inl ne_a_ro)).other W15 (Or.inl ne_a_rd)).keep K76 (ninS ne_a_ri (ninS ne_a_le (ninS ne_a_ch (ninS ne_a_pa (ninS ne_a_de (ninS ne_a_mk nin0))))))).other W90 (Or.inl ne_a_rd)).other W93 (Or.inl ne_a_rd))
    refine wput C X94 (host := "") (Or.inl (tw_13 hw)) Via.refl eq94 q96 ((((((Exa_0.wr W2).wr W5).wr W15).keep K76).wr W90).wr W93) (Or.inl (tw_14 hw)) (tw_2 hw) (ty := .int) (by decide) rfl rfl f11_147 ?_
    intro T97 h97 X97 e97 W97
    have Fw97 := q96.same W97
    have N97 := Fr.snoc X97 N94 ge_21
    refine wiconst C X97 f11_150 (0 : Int32) rfl ?_
    refine wistore C X97 f11_151 #[.val (.ref a), .val (.int (Int32.ofInt x1)), .val (.int (2 : Int32)), .val (.int (Int32.ofInt x1)), .val (.int (1 : Int32)), .val (.int (0 : Int32)), .val (.int (Int32.ofInt x1)), .val (.int (1 : Int32)), .val (.int (Int32.ofInt x2)), .val (.int (Int32.ofInt x2))] rfl ?_
    refine wiload C X97 f11_153 rfl ?_
    refine wiload C X97 f11_155 rfl ?_
    refine wicmp_gt C X97 f11_157 (fun q => absurd q (by decide : ¬ ((1 : Int32) < (0 : Int32)))) ?_
    intro _
    refine waloadN C X97 f11_160 rfl rfl ?_
    have q98 := (((q87.other W90 (Or.inl ne_a_rd)).other W93 (Or.inl ne_a_rd)).other W97 (Or.inr (slot_ne (Or.inr (tw_12 hw)) (Or.inl (tw_14 hw)) (by decide) (t := (.array .int)) (t' := .int) (by decide) (by decide))))
    refine wget C X97 (host := "") (Or.inl (tw_11 hw)) Via.refl e97 q98 f11_161 ?_
    intro T99 X99 e99
    refine wiload C X99 f11_164 rfl ?_
    refine wiaload C X99 e99 (V93.other W97 (Ne.symm ne_a_rd)) f11_166 ⟨by decide, by decide⟩ (i := 0) rfl (v := (-1 : Int32)) (own_vi (own_ar_at (by decide) ((own_un (by decide)).trans (own_us _ _ _))) (by decide)) ?_
    refine wistore C X99 f11_167 #[.val (.ref a), .val (.int (Int32.ofInt x1)), .val (.int (2 : Int32)), .val (.int (Int32.ofInt x1)), .val (.int (1 : Int32)), .val (.int (0 : Int32)), .val (.int (-1 : Int32)), .val (.int (1 : Int32)), .val (.int (Int32.ofInt x2)), .val (.int (Int32.ofInt x2))] rfl ?_
    refine wiload C X99 f11_169 rfl ?_
    refine wiconst C X99 f11_171 (-1 : Int32) rfl ?_
    refine wicmp_eq C X99 f11_172 ?_ (fun q => absurd (by decide : ((-1 : Int32) = (-1 : Int32))) q)
    intro _
    refine waloadN C X99 f11_202 rfl rfl ?_
    refine wget C X99 (host := "") (Or.inl (tw_11 hw)) Via.refl e99 q98 f11_203 ?_
    intro T100 X100 e100
    refine wiload C X100 f11_206 rfl ?_
    refine wiconst C X100 f11_208 (-1 : Int32) rfl ?_
    refine wiastore C X100 e100 (V93.other W97 (Ne.symm ne_a_rd)) f11_209 ⟨by decide, by decide⟩ 0 rfl (by rw [own_ar_len]; omega) (own_ar 64 (own_upd (own_upd (own_upd (own_upd RD 0 x1) 0 (-1)) 1 x1) 0 (-1))) (own_ar_set (by decide) (by decide)) ?_
    intro T101 h101 sl101 w101 X101 e101 W101 V101
    have N101 := Fr.snoc X101 N97 ge_29
    refine wiinc C X101 f11_210 (1 : Int32) (by decide) rfl #[.val (.ref a), .val (.int (Int32.ofInt x1)), .val (.int (2 : Int32)), .val (.int (Int32.ofInt x1)), .val (.int (1 : Int32)), .val (.int (1 : Int32)), .val (.int (-1 : Int32)), .val (.int (1 : Int32)), .val (.int (Int32.ofInt x2)), .val (.int (Int32.ofInt x2))] rfl ?_
    refine wgoto C X101 f11_213 ?_
    refine wiload C X101 f11_153 rfl ?_
    refine wiload C X101 f11_155 rfl ?_
    refine wicmp_gt C X101 f11_157 (fun q => absurd q (by decide : ¬ ((1 : Int32) < (1 : Int32)))) ?_
    intro _
    refine waloadN C X101 f11_160 rfl rfl ?_
    refine wget C X101 (host := "") (Or.inl (tw_11 hw)) Via.refl e101 (q98.other W101 (Or.inl ne_a_rd)) f11_161 ?_
    intro T102 X102 e102
    refine wiload C X102 f11_164 rfl ?_
    refine wiaload C X102 e102 V101 f11_166 ⟨by decide, by decide⟩ (i := 1) rfl (v := (Int32.ofInt x1)) (own_ar_at (by decide) ((own_un (by decide)).trans (own_us _ _ _))) ?_
    refine wistore C X102 f11_167 #[.val (.ref a), .val (.int (Int32.ofInt x1)), .val (.int (2 : Int32)), .val (.int (Int32.ofInt x1)), .val (.int (1 : Int32)), .val (.int (1 : Int32)), .val (.int (Int32.ofInt x1)), .val (.int (1 : Int32)), .val (.int (Int32.ofInt x2)), .val (.int (Int32.ofInt x2))] rfl ?_
    refine wiload C X102 f11_169 rfl ?_
    refine wiconst C X102 f11_171 (-1 : Int32) rfl ?_
    refine wicmp_eq C X102 f11_172 (fun q => absurd q (own_fm _ (by omega))) ?_
    intro _
    refine waloadN C X102 f11_175 rfl rfl ?_
    refine wget C X102 (host := "") (Or.inl (tw_13 hw)) Via.refl e102 (Fw97.other W101 (Or.inl ne_a_rd)) f11_176 ?_
    intro T103 X103 e103
    refine wiconst C X103 f11_179 (-1 : Int32) rfl ?_
    refine wicmp_eq C X103 f11_180 ?_ (fun q => absurd (by decide : ((-1 : Int32) = (-1 : Int32))) q)
    intro _
    refine waloadN C X103 f11_196 rfl rfl ?_
    refine wiload C X103 f11_197 rfl ?_
    have q104 := ((((((((Exa_0.wr W2).wr W5).wr W15).keep K76).wr W90).wr W93).wr W97).wr W101)
    refine wput C X103 (host := "") (Or.inl (tw_13 hw)) Via.refl e103 (Fw97.other W101 (Or.inl ne_a_rd)) q104 (Or.inl (tw_14 hw)) (tw_2 hw) (ty := .int) (by decide) rfl rfl f11_199 ?_
    intro T105 h105 X105 e105 W105
    have Fw105 := (Fw97.other W101 (Or.inl ne_a_rd)).same W105
    have N105 := Fr.snoc X105 N101 ge_21
    refine waloadN C X105 f11_202 rfl rfl ?_
    have q106 := ((q98.other W101 (Or.inl ne_a_rd)).other W105 (Or.inr (slot_ne (Or.inr (tw_12 hw)) (Or.inl (tw_14 hw)) (by decide) (t := (.array .int)) (t' := .int) (by decide) (by decide))))
    refine wget C X105 (host := "") (Or.inl (tw_11 hw)) Via.refl e105 q106 f11_203 ?_
    intro T107 X107 e107
    refine wiload C X107 f11_206 rfl ?_
    refine wiconst C X107 f11_208 (-1 : Int32) rfl ?_
    refine wiastore C X107 e107 (V101.other W105 (Ne.symm ne_a_rd)) f11_209 ⟨by decide, by decide⟩ 1 rfl (by rw [own_ar_len]; omega) (own_ar 64 (own_upd (own_upd (own_upd (own_upd (own_upd RD 0 x1) 0 (-1)) 1 x1) 0 (-1)) 1 (-1))) (own_ar_set (by decide) (by decide)) ?_
    intro T108 h108 sl108 w108 X108 e108 W108 V108
    have N108 := Fr.snoc X108 N105 ge_29
    refine wiinc C X108 f11_210 (2 : Int32) (by decide) rfl #[.val (.ref a), .val (.int (Int32.ofInt x1)), .val (.int (2 : Int32)), .val (.int (Int32.ofInt x1)), .val (.int (1 : Int32)), .val (.int (2 : Int32)), .val (.int (Int32.ofInt x1)), .val (.int (1 : Int32)), .val (.int (Int32.ofInt x2)), .val (.int (Int32.ofInt x2))] rfl ?_
    refine wgoto C X108 f11_213 ?_
    refine wiload C X108 f11_153 rfl ?_
    refine wiload C X108 f11_155 rfl ?_
    refine wicmp_gt C X108 f11_157 ?_ (fun q => absurd (by decide : ((1 : Int32) < (2 : Int32))) q)
    intro _
    refine wret C X108 f11_216 rfl (by decide) (by decide) ?_
    rw [e108]
    have q109 := (((((((((((Keep.refl h0 [ri, le, ch, pa, de, mk, ro, rd, a]).wr W2 (Or.inl (List.mem_of_getElem? (i := 6) rfl))).wr W5 (Or.inl (List.mem_of_getElem? (i := 6) rfl))).wr W15 (Or.inl (List.mem_of_getElem? (i := 7) rfl))).trans K76 (allS (Or.inl (List.mem_of_getElem? (i := 0) rfl)) (allS (Or.inl (List.mem_of_getElem? (i := 1) rfl)) (allS (Or.inl (List.mem_of_getElem? (i := 2) rfl)) (allS (Or.inl (List.mem_of_getElem? (i := 3) rfl)) (allS (Or.inl (List.mem_of_getElem? (i := 4) rfl)) (allS (Or.inl (List.mem_of_getElem? (i := 5) rfl)) all0))))))).wr W90 (Or.inl (List.mem_of_getElem? (i := 7) rfl))).wr W93 (Or.inl (List.mem_of_getElem? (i := 7) rfl))).wr W97 (Or.inl (List.mem_of_getElem? (i := 8) rfl))).wr W101 (Or.inl (List.mem_of_getElem? (i := 7) rfl))).wr W105 (Or.inl (List.mem_of_getElem? (i := 8) rfl))).wr W108 (Or.inl (List.mem_of_getElem? (i := 7) rfl)))
    have q110 := (((((((q24.keep K76 (ninS ne_a_ri (ninS ne_a_le (ninS ne_a_ch (ninS ne_a_pa (ninS ne_a_de (ninS ne_a_mk nin0))))))).other W90 (Or.inl ne_a_rd)).other W93 (Or.inl ne_a_rd)).other W97 (Or.inr (slot_ne (Or.inr (tw_17 hw)) (Or.inl (tw_14 hw)) (by decide) (t := (.array .double)) (t' := .int) (by decide) (by decide)))).other W101 (Or.inl ne_a_rd)).other W105 (Or.inr (slot_ne (Or.inr (tw_17 hw)) (Or.inl (tw_14 hw)) (by decide) (t := (.array .double)) (t' := .int) (by decide) (by decide)))).other W108 (Or.inl ne_a_rd))
    have q111 := (((((((q79.keep K76 (ninS ne_a_ri (ninS ne_a_le (ninS ne_a_ch (ninS ne_a_pa (ninS ne_a_de (ninS ne_a_mk nin0))))))).other W90 (Or.inl ne_a_rd)).other W93 (Or.inl ne_a_rd)).other W97 (Or.inr (slot_ne (Or.inr (tw_19 hw)) (Or.inl (tw_14 hw)) (by decide) (t := (.array .int)) (t' := .int) (by decide) (by decide)))).other W101 (Or.inl ne_a_rd)).other W105 (Or.inr (slot_ne (Or.inr (tw_19 hw)) (Or.inl (tw_14 hw)) (by decide) (t := (.array .int)) (t' := .int) (by decide) (by decide)))).other W108 (Or.inl ne_a_rd))
    have q112 := (((((((q78.keep K76 (ninS ne_a_ri (ninS ne_a_le (ninS ne_a_ch (ninS ne_a_pa (ninS ne_a_de (ninS ne_a_mk nin0))))))).other W90 (Or.inl ne_a_rd)).other W93 (Or.inl ne_a_rd)).other W97 (Or.inr (slot_ne (Or.inr (tw_21 hw)) (Or.inl (tw_14 hw)) (by decide) (t := (.array .int)) (t' := .int) (by decide) (by decide)))).other W101 (Or.inl ne_a_rd)).other W105 (Or.inr (slot_ne (Or.inr (tw_21 hw)) (Or.inl (tw_14 hw)) (by decide) (t := (.array .int)) (t' := .int) (by decide) (by decide)))).other W108 (Or.inl ne_a_rd))
    have q113 := (((((((q77.keep K76 (ninS ne_a_ri (ninS ne_a_le (ninS ne_a_ch (ninS ne_a_pa (ninS ne_a_de (ninS ne_a_mk nin0))))))).other W90 (Or.inl ne_a_rd)).other W93 (Or.inl ne_a_rd)).other W97 (Or.inr (slot_ne (Or.inr (tw_23 hw)) (Or.inl (tw_14 hw)) (by decide) (t := (.array .int)) (t' := .int) (by decide) (by decide)))).other W101 (Or.inl ne_a_rd)).other W105 (Or.inr (slot_ne (Or.inr (tw_23 hw)) (Or.inl (tw_14 hw)) (by decide) (t := (.array .int)) (t' := .int) (by decide) (by decide)))).other W108 (Or.inl ne_a_rd))
    have q114 := ((((((((q6.other W15 (Or.inl ne_a_rd)).keep K76 (ninS ne_a_ri (ninS ne_a_le (ninS ne_a_ch (ninS ne_a_pa (ninS ne_a_de (ninS ne_a_mk nin0))))))).other W90 (Or.inl ne_a_rd)).other W93 (Or.inl ne_a_rd)).other W97 (Or.inr (slot_ne (Or.inr (tw_25 hw)) (Or.inl (tw_14 hw)) (by decide) (t := (.array .int)) (t' := .int) (by decide) (by decide)))).other W101 (Or.inl ne_a_rd)).other W105 (Or.inr (slot_ne (Or.inr (tw_25 hw)) (Or.inl (tw_14 hw)) (by decide) (t := (.array .int)) (t' := .int) (by decide) (by decide)))).other W108 (Or.inl ne_a_rd))
    have q115 := ((((((((q10.other W15 (Or.inl ne_a_rd)).keep K76 (ninS ne_a_ri (ninS ne_a_le (ninS ne_a_ch (ninS ne_a_pa (ninS ne_a_de (ninS ne_a_mk nin0))))))).other W90 (Or.inl ne_a_rd)).other W93 (Or.inl ne_a_rd)).other W97 (Or.inr (slot_ne (Or.inr (tw_27 hw)) (Or.inl (tw_14 hw)) (by decide) (t := (.array .int)) (t' := .int) (by decide) (by decide)))).other W101 (Or.inl ne_a_rd)).other W105 (Or.inr (slot_ne (Or.inr (tw_27 hw)) (Or.inl (tw_14 hw)) (by decide) (t := (.array .int)) (t' := .int) (by decide) (by decide)))).other W108 (Or.inl ne_a_rd))
    have q116 := (((((((q80.keep K76 (ninS ne_a_ri (ninS ne_a_le (ninS ne_a_ch (ninS ne_a_pa (ninS ne_a_de (ninS ne_a_mk nin0))))))).other W90 (Or.inl ne_a_rd)).other W93 (Or.inl ne_a_rd)).other W97 (Or.inr (slot_ne (Or.inr (tw_30 hw)) (Or.inl (tw_14 hw)) (by decide) (t := (.array .boolean)) (t' := .int) (by decide) (by decide)))).other W101 (Or.inl ne_a_rd)).other W105 (Or.inr (slot_ne (Or.inr (tw_30 hw)) (Or.inl (tw_14 hw)) (by decide) (t := (.array .boolean)) (t' := .int) (by decide) (by decide)))).other W108 (Or.inl ne_a_rd))
    have q117 := ((((((((((Fld_8.other W2 (Or.inl ne_a_ro)).other W5 (Or.inl ne_a_ro)).other W15 (Or.inl ne_a_rd)).keep K76 (ninS ne_a_ri (ninS ne_a_le (ninS ne_a_ch (ninS ne_a_pa (ninS ne_a_de (ninS ne_a_mk nin0))))))).other W90 (Or.inl ne_a_rd)).other W93 (Or.inl ne_a_rd)).other W97 (Or.inr (slot_ne (Or.inr (tw_32 hw)) (Or.inl (tw_14 hw)) (by decide) (t := (.array .boolean)) (t' := .int) (by decide) (by decide)))).other W101 (Or.inl ne_a_rd)).other W105 (Or.inr (slot_ne (Or.inr (tw_32 hw)) (Or.inl (tw_14 hw)) (by decide) (t := (.array .boolean)) (t' := .int) (by decide) (by decide)))).other W108 (Or.inl ne_a_rd))
    have q118 := ((((((((q8.other W15 (Or.inl ne_a_rd)).keep K76 (ninS ne_a_ri (ninS ne_a_le (ninS ne_a_ch (ninS ne_a_pa (ninS ne_a_de (ninS ne_a_mk nin0))))))).other W90 (Or.inl ne_a_rd)).other W93 (Or.inl ne_a_rd)).other W97 (Or.inr (slot_ne (Or.inr (tw_34 hw)) (Or.inl (tw_14 hw)) (by decide) (t := (.array .int)) (t' := .int) (by decide) (by decide)))).other W101 (Or.inl ne_a_rd)).other W105 (Or.inr (slot_ne (Or.inr (tw_34 hw)) (Or.inl (tw_14 hw)) (by decide) (t := (.array .int)) (t' := .int) (by decide) (by decide)))).other W108 (Or.inl ne_a_rd))
    have q119 := ((((((G76_0.other W90 (Ne.symm ne_rd_ri)).other W93 (Ne.symm ne_rd_ri)).other W97 (Ne.symm ne_a_ri)).other W101 (Ne.symm ne_rd_ri)).other W105 (Ne.symm ne_a_ri)).other W108 (Ne.symm ne_rd_ri))
    have q120 := ((((((G76_1.other W90 ne_le_rd).other W93 ne_le_rd).other W97 (Ne.symm ne_a_le)).other W101 ne_le_rd).other W105 (Ne.symm ne_a_le)).other W108 ne_le_rd)
    have q121 := ((((((G76_2.other W90 ne_ch_rd).other W93 ne_ch_rd).other W97 (Ne.symm ne_a_ch)).other W101 ne_ch_rd).other W105 (Ne.symm ne_a_ch)).other W108 ne_ch_rd)
    have q122 := ((((((G76_3.other W90 ne_pa_rd).other W93 ne_pa_rd).other W97 (Ne.symm ne_a_pa)).other W101 ne_pa_rd).other W105 (Ne.symm ne_a_pa)).other W108 ne_pa_rd)
    have q123 := ((((((G76_4.other W90 ne_de_rd).other W93 ne_de_rd).other W97 (Ne.symm ne_a_de)).other W101 ne_de_rd).other W105 (Ne.symm ne_a_de)).other W108 ne_de_rd)
    have q124 := ((((((G76_5.other W90 ne_mk_rd).other W93 ne_mk_rd).other W97 (Ne.symm ne_a_mk)).other W101 ne_mk_rd).other W105 (Ne.symm ne_a_mk)).other W108 ne_mk_rd)
    have q125 := ((((((((V5.other W15 (Ne.symm ne_rd_ro)).keep K76 (ninS (Ne.symm ne_ri_ro) (ninS (Ne.symm ne_le_ro) (ninS (Ne.symm ne_ch_ro) (ninS (Ne.symm ne_pa_ro) (ninS (Ne.symm ne_de_ro) (ninS (Ne.symm ne_mk_ro) nin0))))))).other W90 (Ne.symm ne_rd_ro)).other W93 (Ne.symm ne_rd_ro)).other W97 (Ne.symm ne_a_ro)).other W101 (Ne.symm ne_rd_ro)).other W105 (Ne.symm ne_a_ro)).other W108 (Ne.symm ne_rd_ro))
    exact ⟨x1, x2, rfl, N108, q109, ((q104.wr W105).wr W108), q110, q111, q112, q113, q114, q115, q116, q117, q118, (q106.other W108 (Or.inl ne_a_rd)), (Fw105.other W108 (Or.inl ne_a_rd)), q119, q120, q121, q122, q123, q124, q125, V108, (Or.inl ⟨rfl, rfl, own_bfy hc84⟩)⟩
theorem f9_0 : Dec prog_25_method_7_code 0 (.aload_n 0) 1 1 := ⟨by decide +kernel, rfl⟩
theorem f9_1 : Dec prog_25_method_7_code 1 (.getfield 13) 3 4 := ⟨by decide +kernel, rfl⟩
theorem f9_4 : Dec prog_25_method_7_code 4 (.istore_n 1) 1 5 := ⟨by decide +kernel, rfl⟩
theorem f9_5 : Dec prog_25_method_7_code 5 (.aload_n 0) 1 6 := ⟨by decide +kernel, rfl⟩
theorem f9_6 : Dec prog_25_method_7_code 6 (.getfield 24) 3 9 := ⟨by decide +kernel, rfl⟩
theorem f9_9 : Dec prog_25_method_7_code 9 (.iload_n 1) 1 10 := ⟨by decide +kernel, rfl⟩
theorem f9_10 : Dec prog_25_method_7_code 10 (.iaload) 1 11 := ⟨by decide +kernel, rfl⟩
theorem f9_11 : Dec prog_25_method_7_code 11 (.istore_n 2) 1 12 := ⟨by decide +kernel, rfl⟩
theorem f9_12 : Dec prog_25_method_7_code 12 (.iload_n 2) 1 13 := ⟨by decide +kernel, rfl⟩
theorem f9_13 : Dec prog_25_method_7_code 13 (.iconst (-1)) 1 14 := ⟨by decide +kernel, rfl⟩
theorem f9_14 : DecJ prog_25_method_7_code 14 (.if_icmp .eq 30) 30 44 17 := ⟨by decide +kernel, by decide, by decide, rfl⟩
theorem f9_44 : Dec prog_25_method_7_code 44 (.aload_n 0) 1 45 := ⟨by decide +kernel, rfl⟩
theorem f9_45 : Dec prog_25_method_7_code 45 (.getfield 30) 3 48 := ⟨by decide +kernel, rfl⟩
theorem f9_48 : Dec prog_25_method_7_code 48 (.iload_n 1) 1 49 := ⟨by decide +kernel, rfl⟩
theorem f9_49 : Dec prog_25_method_7_code 49 (.iaload) 1 50 := ⟨by decide +kernel, rfl⟩
theorem f9_50 : Dec prog_25_method_7_code 50 (.iload_n 1) 1 51 := ⟨by decide +kernel, rfl⟩
theorem f9_51 : DecJ prog_25_method_7_code 51 (.if_icmp .ne 11) 11 62 54 := ⟨by decide +kernel, by decide, by decide, rfl⟩
theorem f9_54 : Dec prog_25_method_7_code 54 (.aload_n 0) 1 55 := ⟨by decide +kernel, rfl⟩
theorem f9_55 : Dec prog_25_method_7_code 55 (.iconst (-1)) 1 56 := ⟨by decide +kernel, rfl⟩
theorem f9_56 : Dec prog_25_method_7_code 56 (.putfield 13) 3 59 := ⟨by decide +kernel, rfl⟩
theorem f9_59 : DecJ prog_25_method_7_code 59 (.goto 20) 20 79 62 := ⟨by decide +kernel, by decide, by decide, rfl⟩
theorem f9_79 : Dec prog_25_method_7_code 79 (.aload_n 0) 1 80 := ⟨by decide +kernel, rfl⟩
theorem f9_80 : Dec prog_25_method_7_code 80 (.getfield 40) 3 83 := ⟨by decide +kernel, rfl⟩
theorem f9_83 : Dec prog_25_method_7_code 83 (.iload_n 1) 1 84 := ⟨by decide +kernel, rfl⟩
theorem f9_84 : Dec prog_25_method_7_code 84 (.iconst 0) 1 85 := ⟨by decide +kernel, rfl⟩
theorem f9_85 : Dec prog_25_method_7_code 85 (.bastore) 1 86 := ⟨by decide +kernel, rfl⟩
theorem f9_86 : Dec prog_25_method_7_code 86 (.aload_n 0) 1 87 := ⟨by decide +kernel, rfl⟩
theorem f9_87 : Dec prog_25_method_7_code 87 (.getfield 24) 3 90 := ⟨by decide +kernel, rfl⟩
theorem f9_90 : Dec prog_25_method_7_code 90 (.iload_n 1) 1 91 := ⟨by decide +kernel, rfl⟩
theorem f9_91 : Dec prog_25_method_7_code 91 (.iconst (-1)) 1 92 := ⟨by decide +kernel, rfl⟩
theorem f9_92 : Dec prog_25_method_7_code 92 (.iastore) 1 93 := ⟨by decide +kernel, rfl⟩
theorem f9_93 : Dec prog_25_method_7_code 93 (.iload_n 1) 1 94 := ⟨by decide +kernel, rfl⟩
theorem f9_94 : Dec prog_25_method_7_code 94 (.ireturn) 1 95 := ⟨by decide +kernel, rfl⟩
theorem pn_9 : plainFor (⟨"com/example/hornwork/hornwork/FibonacciHeap", "removeLeast", "()I"⟩ : MethodName) = true := plainFor_of_name (show plainName "com/example/hornwork/hornwork/FibonacciHeap" = true by first | (simp [plainName, overriddenIn]; done) | decide +kernel)
theorem ef_9_A (m : MethodId) (a : Addr) : entryFrame m #[(.ref a)] 4 = mkF m 0 #[.val (.ref a), .unset, .unset, .unset] [] := by first | (simp [entryFrame, mkF, argsToLocals, Value.category]; done) | rfl
def Q9_A (Z : State) (a : Addr) (ky : Addr) (pa : Addr) (ch : Addr) (le : Addr) (ri : Addr) (de : Addr) (mk : Addr) (co : Addr) (ro : Addr) (rd : Addr) (kri : ClassId) (kch : ClassId) (kco : ClassId) (RI : Nat → Int) (CH : Nat → Int) (CO : Nat → Int) (x1 : Nat) (h0 : Heap) (n0 : Nat) (v9 : Option Value) (h9 : Heap) (L9 : List Loc) : Prop := v9 = some (.int (Int32.ofInt x1)) ∧ Fr n0 L9 ∧ Keep h0 h9 [ch, co, a] ∧ Exa Z h9 a "com/example/hornwork/hornwork/FibonacciHeap" ∧ Fld Z h9 a "com/example/hornwork/hornwork/FibonacciHeap" "key" "[D" (.ref ky) ∧ Fld Z h9 a "com/example/hornwork/hornwork/FibonacciHeap" "parent" "[I" (.ref pa) ∧ Fld Z h9 a "com/example/hornwork/hornwork/FibonacciHeap" "child" "[I" (.ref ch) ∧ Fld Z h9 a "com/example/hornwork/hornwork/FibonacciHeap" "left" "[I" (.ref le) ∧ Fld Z h9 a "com/example/hornwork/hornwork/FibonacciHeap" "right" "[I" (.ref ri) ∧ Fld Z h9 a "com/example/hornwork/hornwork/FibonacciHeap" "degree" "[I" (.ref de) ∧ Fld Z h9 a "com/example/hornwork/hornwork/FibonacciHeap" "marked" "[Z" (.ref mk) ∧ Fld Z h9 a "com/example/hornwork/hornwork/FibonacciHeap" "contained" "[Z" (.ref co) ∧ Fld Z h9 a "com/example/hornwork/hornwork/FibonacciHeap" "roots" "[I" (.ref ro) ∧ Fld Z h9 a "com/example/hornwork/hornwork/FibonacciHeap" "rootOfDegree" "[I" (.ref rd) ∧ Fld Z h9 a "com/example/hornwork/hornwork/FibonacciHeap" "least" "I" (.int (-1 : Int32)) ∧ Arv Z h9 ch kch .int (3 : Int32) (own_ar 3 (own_upd CH x1 (-1))) (.int (0 : Int32)) ∧ Arv Z h9 co kco .boolean (3 : Int32) (own_ar 3 (own_upd CO x1 0)) (.int (0 : Int32))
set_option maxRecDepth 65536 in
set_option maxHeartbeats 40000000 in
theorem rm9_A (l : Launch) (Z : State) (a0 : Array Value) (hw : ∀ d ∈ tables_1, d.before a0 Z = true) (ws : List Jvm.Cond) (a : Addr) (ky : Addr) (pa : Addr) (ch : Addr) (le : Addr) (ri : Addr) (de : Addr) (mk : Addr) (co : Addr) (ro : Addr) (rd : Addr) (kri : ClassId) (kch : ClassId) (kco : ClassId) (RI : Nat → Int) (CH : Nat → Int) (CO : Nat → Int) (x1 : Nat) (h0 : Heap) (n0 : Nat) (Z0 : n0 ≤ h0.size) (Exa_0 : Exa Z h0 a "com/example/hornwork/hornwork/FibonacciHeap") (Fld_1 : Fld Z h0 a "com/example/hornwork/hornwork/FibonacciHeap" "key" "[D" (.ref ky)) (Fld_2 : Fld Z h0 a "com/example/hornwork/hornwork/FibonacciHeap" "parent" "[I" (.ref pa)) (Fld_3 : Fld Z h0 a "com/example/hornwork/hornwork/FibonacciHeap" "child" "[I" (.ref ch)) (Fld_4 : Fld Z h0 a "com/example/hornwork/hornwork/FibonacciHeap" "left" "[I" (.ref le)) (Fld_5 : Fld Z h0 a "com/example/hornwork/hornwork/FibonacciHeap" "right" "[I" (.ref ri)) (Fld_6 : Fld Z h0 a "com/example/hornwork/hornwork/FibonacciHeap" "degree" "[I" (.ref de)) (Fld_7 : Fld Z h0 a "com/example/hornwork/hornwork/FibonacciHeap" "marked" "[Z" (.ref mk)) (Fld_8 : Fld Z h0 a "com/example/hornwork/hornwork/FibonacciHeap" "contained" "[Z" (.ref co)) (Fld_9 : Fld Z h0 a "com/example/hornwork/hornwork/FibonacciHeap" "roots" "[I" (.ref ro)) (Fld_10 : Fld Z h0 a "com/example/hornwork/hornwork/FibonacciHeap" "rootOfDegree" "[I" (.ref rd)) (Fld_11 : Fld Z h0 a "com/example/hornwork/hornwork/FibonacciHeap" "least" "I" (.int (Int32.ofInt x1))) (Arv_12 : Arv Z h0 ri kri .int (3 : Int32) (own_ar 3 RI) (.int (0 : Int32))) (Arv_13 : Arv Z h0 ch kch .int (3 : Int32) (own_ar 3 CH) (.int (0 : Int32))) (Arv_14 : Arv Z h0 co kco .boolean (3 : Int32) (own_ar 3 CO) (.int (0 : Int32))) (ge_15 : n0 ≤ a) (ge_16 : n0 ≤ ri) (ge_17 : n0 ≤ ch) (ge_18 : n0 ≤ co) (h_x1 : (x1 < 3)) (eC : (CH x1 = (-1))) (eR : (RI x1 = x1)) (ne_a_co : a ≠ co) (ne_a_ch : a ≠ ch) (ne_ch_co : ch ≠ co) :
    MetFree l (⟨"com/example/hornwork/hornwork/FibonacciHeap", "removeLeast", "()I"⟩ : MethodName) (head1 (Jvm.Cond.code (⟨"com/example/hornwork/hornwork/FibonacciHeap", "removeLeast", "()I"⟩ : MethodName) prog_25_method_7_code 4 (some .int) :: ws) ({ frames := 0, cells := 0, slots := 0, locals := 0 } : Room)) (fun A9 U9 => A9 = #[(.ref a)] ∧ Z.Warmed39 U9.vm ∧ U9.heap = h0) (fun _ _ _ _ _ => True) (fun _ U9 o9 V9 => ∃ v9 L9, o9 = .returned v9 ∧ (Q9_A Z a ky pa ch le ri de mk co ro rd kri kch kco RI CH CO x1 h0 n0) v9 V9.heap L9 ∧ FrameEnd U9 o9 V9 L9 ({ frames := 0, cells := 0, slots := 0, locals := 0 } : Room).cells ({ frames := 0, cells := 0, slots := 0, locals := 0 } : Room).slots) := by
  refine met_of (Q := (Q9_A Z a ky pa ch le ri de mk co ro rd kri kch kco RI CH CO x1 h0 n0)) pn_9 ?_
  intro p e s m below meth c T0 C X0 e0
  have N0 := Fr.nil n0
  refine Go.cast (ef_9_A m a) ?_
  refine waloadN C X0 f9_0 rfl rfl ?_
  refine wget C X0 (host := "") (Or.inl (tw_13 hw)) Via.refl e0 Fld_11 f9_1 ?_
  intro T1 X1 e1
  refine wistoreN C X1 f9_4 #[.val (.ref a), .val (.int (Int32.ofInt x1)), .unset, .unset] rfl ?_
  refine waloadN C X1 f9_5 rfl rfl ?_
  refine wget C X1 (host := "") (Or.inl (tw_20 hw)) Via.refl e1 Fld_3 f9_6 ?_
  intro T2 X2 e2
  refine wiloadN C X2 f9_9 rfl ?_
  refine wiaload C X2 e2 Arv_13 f9_10 (own_fx _ (by omega)) (i := x1) (own_fc _ (by omega)) (v := (-1 : Int32)) (own_vi (own_ar_at (by omega) (eC)) (by decide)) ?_
  refine wistoreN C X2 f9_11 #[.val (.ref a), .val (.int (Int32.ofInt x1)), .val (.int (-1 : Int32)), .unset] rfl ?_
  refine wiloadN C X2 f9_12 rfl ?_
  refine wiconst C X2 f9_13 (-1 : Int32) rfl ?_
  refine wicmp_eq C X2 f9_14 ?_ (fun q => absurd (by decide : ((-1 : Int32) = (-1 : Int32))) q)
  intro _
  refine waloadN C X2 f9_44 rfl rfl ?_
  refine wget C X2 (host := "") (Or.inl (tw_24 hw)) Via.refl e2 Fld_5 f9_45 ?_
  intro T3 X3 e3
  refine wiloadN C X3 f9_48 rfl ?_
  refine wiaload C X3 e3 Arv_12 f9_49 (own_fx _ (by omega)) (i := x1) (own_fc _ (by omega)) (v := (Int32.ofInt x1)) (own_ar_at (by omega) (eR)) ?_
  refine wiloadN C X3 f9_50 rfl ?_
  refine wicmp_ne C X3 f9_51 ?_ (fun q => absurd (rfl : (Int32.ofInt x1) = (Int32.ofInt x1)) q)
  intro _
  refine waloadN C X3 f9_54 rfl rfl ?_
  refine wiconst C X3 f9_55 (-1 : Int32) rfl ?_
  refine wput C X3 (host := "") (Or.inl (tw_13 hw)) Via.refl e3 Fld_11 Exa_0 (Or.inl (tw_14 hw)) (tw_2 hw) (ty := .int) (by decide) rfl rfl f9_56 ?_
  intro T4 h4 X4 e4 W4
  have Fw4 := Fld_11.same W4
  have N4 := Fr.snoc X4 N0 ge_15
  refine wgoto C X4 f9_59 ?_
  refine waloadN C X4 f9_79 rfl rfl ?_
  have q5 := (Fld_8.other W4 (Or.inr (slot_ne (Or.inr (tw_32 hw)) (Or.inl (tw_14 hw)) (by decide) (t := (.array .boolean)) (t' := .int) (by decide) (by decide))))
  refine wget C X4 (host := "") (Or.inl (tw_31 hw)) Via.refl e4 q5 f9_80 ?_
  intro T6 X6 e6
  refine wiloadN C X6 f9_83 rfl ?_
  refine wiconst C X6 f9_84 (0 : Int32) rfl ?_
  refine wbastoreZ C X6 e6 (Arv_14.other W4 (Ne.symm ne_a_co)) f9_85 (own_fx _ (by omega)) x1 (own_fc _ (by omega)) (by rw [own_ar_len]; omega) (own_ar 3 (own_upd CO x1 0)) (own_ar_set (by omega) (by decide)) ?_
  intro T7 h7 sl7 w7 X7 e7 W7 V7
  have N7 := Fr.snoc X7 N4 ge_18
  refine waloadN C X7 f9_86 rfl rfl ?_
  have q8 := ((Fld_3.other W4 (Or.inr (slot_ne (Or.inr (tw_21 hw)) (Or.inl (tw_14 hw)) (by decide) (t := (.array .int)) (t' := .int) (by decide) (by decide)))).other W7 (Or.inl ne_a_co))
  refine wget C X7 (host := "") (Or.inl (tw_20 hw)) Via.refl e7 q8 f9_87 ?_
  intro T9 X9 e9
  refine wiloadN C X9 f9_90 rfl ?_
  refine wiconst C X9 f9_91 (-1 : Int32) rfl ?_
  refine wiastore C X9 e9 ((Arv_13.other W4 (Ne.symm ne_a_ch)).other W7 ne_ch_co) f9_92 (own_fx _ (by omega)) x1 (own_fc _ (by omega)) (by rw [own_ar_len]; omega) (own_ar 3 (own_upd CH x1 (-1))) (own_ar_set (by omega) (by decide)) ?_
  intro T10 h10 sl10 w10 X10 e10 W10 V10
  have N10 := Fr.snoc X10 N7 ge_17
  refine wiloadN C X10 f9_93 rfl ?_
  refine wiret C X10 f9_94 rfl (by decide) (by decide) ?_
  rw [e10]
  have q11 := ((((Keep.refl h0 [ch, co, a]).wr W4 (Or.inl (List.mem_of_getElem? (i := 2) rfl))).wr W7 (Or.inl (List.mem_of_getElem? (i := 1) rfl))).wr W10 (Or.inl (List.mem_of_getElem? (i := 0) rfl)))
  have q12 := (((Fld_1.other W4 (Or.inr (slot_ne (Or.inr (tw_17 hw)) (Or.inl (tw_14 hw)) (by decide) (t := (.array .double)) (t' := .int) (by decide) (by decide)))).other W7 (Or.inl ne_a_co)).other W10 (Or.inl ne_a_ch))
  have q13 := (((Fld_2.other W4 (Or.inr (slot_ne (Or.inr (tw_19 hw)) (Or.inl (tw_14 hw)) (by decide) (t := (.array .int)) (t' := .int) (by decide) (by decide)))).other W7 (Or.inl ne_a_co)).other W10 (Or.inl ne_a_ch))
  have q14 := (((Fld_4.other W4 (Or.inr (slot_ne (Or.inr (tw_23 hw)) (Or.inl (tw_14 hw)) (by decide) (t := (.array .int)) (t' := .int) (by decide) (by decide)))).other W7 (Or.inl ne_a_co)).other W10 (Or.inl ne_a_ch))
  have q15 := (((Fld_5.other W4 (Or.inr (slot_ne (Or.inr (tw_25 hw)) (Or.inl (tw_14 hw)) (by decide) (t := (.array .int)) (t' := .int) (by decide) (by decide)))).other W7 (Or.inl ne_a_co)).other W10 (Or.inl ne_a_ch))
  have q16 := (((Fld_6.other W4 (Or.inr (slot_ne (Or.inr (tw_27 hw)) (Or.inl (tw_14 hw)) (by decide) (t := (.array .int)) (t' := .int) (by decide) (by decide)))).other W7 (Or.inl ne_a_co)).other W10 (Or.inl ne_a_ch))
  have q17 := (((Fld_7.other W4 (Or.inr (slot_ne (Or.inr (tw_30 hw)) (Or.inl (tw_14 hw)) (by decide) (t := (.array .boolean)) (t' := .int) (by decide) (by decide)))).other W7 (Or.inl ne_a_co)).other W10 (Or.inl ne_a_ch))
  have q18 := (((Fld_9.other W4 (Or.inr (slot_ne (Or.inr (tw_34 hw)) (Or.inl (tw_14 hw)) (by decide) (t := (.array .int)) (t' := .int) (by decide) (by decide)))).other W7 (Or.inl ne_a_co)).other W10 (Or.inl ne_a_ch))
  have q19 := (((Fld_10.other W4 (Or.inr (slot_ne (Or.inr (tw_12 hw)) (Or.inl (tw_14 hw)) (by decide) (t := (.array .int)) (t' := .int) (by decide) (by decide)))).other W7 (Or.inl ne_a_co)).other W10 (Or.inl ne_a_ch))
  exact ⟨rfl, N10, q11, (((Exa_0.wr W4).wr W7).wr W10), q12, q13, (q8.other W10 (Or.inl ne_a_ch)), q14, q15, q16, q17, ((q5.other W7 (Or.inl ne_a_co)).other W10 (Or.inl ne_a_ch)), q18, q19, ((Fw4.other W7 (Or.inl ne_a_co)).other W10 (Or.inl ne_a_ch)), V10, (V7.other W10 (Ne.symm ne_ch_co))⟩
theorem f9_62 : Dec prog_25_method_7_code 62 (.aload_n 0) 1 63 := ⟨by decide +kernel, rfl⟩
theorem f9_63 : Dec prog_25_method_7_code 63 (.getfield 30) 3 66 := ⟨by decide +kernel, rfl⟩
theorem f9_66 : Dec prog_25_method_7_code 66 (.iload_n 1) 1 67 := ⟨by decide +kernel, rfl⟩
theorem f9_67 : Dec prog_25_method_7_code 67 (.iaload) 1 68 := ⟨by decide +kernel, rfl⟩
theorem f9_68 : Dec prog_25_method_7_code 68 (.istore_n 3) 1 69 := ⟨by decide +kernel, rfl⟩
theorem f9_69 : Dec prog_25_method_7_code 69 (.aload_n 0) 1 70 := ⟨by decide +kernel, rfl⟩
theorem f9_70 : Dec prog_25_method_7_code 70 (.iload_n 1) 1 71 := ⟨by decide +kernel, rfl⟩
theorem f9_71 : Dec prog_25_method_7_code 71 (.invokevirtual 77) 3 74 := ⟨by decide +kernel, rfl⟩
theorem f9_74 : Dec prog_25_method_7_code 74 (.aload_n 0) 1 75 := ⟨by decide +kernel, rfl⟩
theorem f9_75 : Dec prog_25_method_7_code 75 (.iload_n 3) 1 76 := ⟨by decide +kernel, rfl⟩
theorem f9_76 : Dec prog_25_method_7_code 76 (.invokevirtual 80) 3 79 := ⟨by decide +kernel, rfl⟩
theorem ef_9_B (m : MethodId) (a : Addr) : entryFrame m #[(.ref a)] 4 = mkF m 0 #[.val (.ref a), .unset, .unset, .unset] [] := by first | (simp [entryFrame, mkF, argsToLocals, Value.category]; done) | rfl
def Q9_B (Z : State) (a : Addr) (ky : Addr) (pa : Addr) (ch : Addr) (le : Addr) (ri : Addr) (de : Addr) (mk : Addr) (co : Addr) (ro : Addr) (rd : Addr) (kri : ClassId) (kle : ClassId) (kch : ClassId) (kco : ClassId) (kde : ClassId) (kro : ClassId) (krd : ClassId) (RI : Nat → Int) (LE : Nat → Int) (CH : Nat → Int) (CO : Nat → Int) (DE : Nat → Int) (RO : Nat → Int) (RD : Nat → Int) (x1 : Nat) (x2 : Nat) (h0 : Heap) (n0 : Nat) (v9 : Option Value) (h9 : Heap) (L9 : List Loc) : Prop := v9 = some (.int (Int32.ofInt x1)) ∧ Fr n0 L9 ∧ Keep h0 h9 [ri, le, ch, co, ro, rd, a] ∧ Exa Z h9 a "com/example/hornwork/hornwork/FibonacciHeap" ∧ Fld Z h9 a "com/example/hornwork/hornwork/FibonacciHeap" "key" "[D" (.ref ky) ∧ Fld Z h9 a "com/example/hornwork/hornwork/FibonacciHeap" "parent" "[I" (.ref pa) ∧ Fld Z h9 a "com/example/hornwork/hornwork/FibonacciHeap" "child" "[I" (.ref ch) ∧ Fld Z h9 a "com/example/hornwork/hornwork/FibonacciHeap" "left" "[I" (.ref le) ∧ Fld Z h9 a "com/example/hornwork/hornwork/FibonacciHeap" "right" "[I" (.ref ri) ∧ Fld Z h9 a "com/example/hornwork/hornwork/FibonacciHeap" "degree" "[I" (.ref de) ∧ Fld Z h9 a "com/example/hornwork/hornwork/FibonacciHeap" "marked" "[Z" (.ref mk) ∧ Fld Z h9 a "com/example/hornwork/hornwork/FibonacciHeap" "contained" "[Z" (.ref co) ∧ Fld Z h9 a "com/example/hornwork/hornwork/FibonacciHeap" "roots" "[I" (.ref ro) ∧ Fld Z h9 a "com/example/hornwork/hornwork/FibonacciHeap" "rootOfDegree" "[I" (.ref rd) ∧ Fld Z h9 a "com/example/hornwork/hornwork/FibonacciHeap" "least" "I" (.int (Int32.ofInt x2)) ∧ Arv Z h9 ri kri .int (3 : Int32) (own_ar 3 (own_upd (own_upd RI x2 x2) x1 x1)) (.int (0 : Int32)) ∧ Arv Z h9 le kle .int (3 : Int32) (own_ar 3 (own_upd (own_upd LE x2 x2) x1 x1)) (.int (0 : Int32)) ∧ Arv Z h9 ch kch .int (3 : Int32) (own_ar 3 (own_upd CH x1 (-1))) (.int (0 : Int32)) ∧ Arv Z h9 co kco .boolean (3 : Int32) (own_ar 3 (own_upd CO x1 0)) (.int (0 : Int32)) ∧ Arv Z h9 ro kro .int (3 : Int32) (own_ar 3 (own_upd RO 0 x2)) (.int (0 : Int32)) ∧ Arv Z h9 rd krd .int (64 : Int32) (own_ar 64 (own_upd (own_upd RD 0 x2) 0 (-1))) (.int (0 : Int32))
set_option maxRecDepth 65536 in
set_option maxHeartbeats 40000000 in
theorem rm9_B (l : Launch) (Z : State) (a0 : Array Value) (hw : ∀ d ∈ tables_1, d.before a0 Z = true) (ws : List Jvm.Cond) (a : Addr) (ky : Addr) (pa : Addr) (ch : Addr) (le : Addr) (ri : Addr) (de : Addr) (mk : Addr) (co : Addr) (ro : Addr) (rd : Addr) (kri : ClassId) (kle : ClassId) (kch : ClassId) (kco : ClassId) (kde : ClassId) (kro : ClassId) (krd : ClassId) (RI : Nat → Int) (LE : Nat → Int) (CH : Nat → Int) (CO : Nat → Int) (DE : Nat → Int) (RO : Nat → Int) (RD : Nat → Int) (x1 : Nat) (x2 : Nat) (h0 : Heap) (n0 : Nat) (Z0 : n0 ≤ h0.size) (Exa_0 : Exa Z h0 a "com/example/hornwork/hornwork/FibonacciHeap") (Fld_1 : Fld Z h0 a "com/example/hornwork/hornwork/FibonacciHeap" "key" "[D" (.ref ky)) (Fld_2 : Fld Z h0 a "com/example/hornwork/hornwork/FibonacciHeap" "parent" "[I" (.ref pa)) (Fld_3 : Fld Z h0 a "com/example/hornwork/hornwork/FibonacciHeap" "child" "[I" (.ref ch)) (Fld_4 : Fld Z h0 a "com/example/hornwork/hornwork/FibonacciHeap" "left" "[I" (.ref le)) (Fld_5 : Fld Z h0 a "com/example/hornwork/hornwork/FibonacciHeap" "right" "[I" (.ref ri)) (Fld_6 : Fld Z h0 a "com/example/hornwork/hornwork/FibonacciHeap" "degree" "[I" (.ref de)) (Fld_7 : Fld Z h0 a "com/example/hornwork/hornwork/FibonacciHeap" "marked" "[Z" (.ref mk)) (Fld_8 : Fld Z h0 a "com/example/hornwork/hornwork/FibonacciHeap" "contained" "[Z" (.ref co)) (Fld_9 : Fld Z h0 a "com/example/hornwork/hornwork/FibonacciHeap" "roots" "[I" (.ref ro)) (Fld_10 : Fld Z h0 a "com/example/hornwork/hornwork/FibonacciHeap" "rootOfDegree" "[I" (.ref rd)) (Fld_11 : Fld Z h0 a "com/example/hornwork/hornwork/FibonacciHeap" "least" "I" (.int (Int32.ofInt x1))) (Arv_12 : Arv Z h0 ri kri .int (3 : Int32) (own_ar 3 RI) (.int (0 : Int32))) (Arv_13 : Arv Z h0 le kle .int (3 : Int32) (own_ar 3 LE) (.int (0 : Int32))) (Arv_14 : Arv Z h0 ch kch .int (3 : Int32) (own_ar 3 CH) (.int (0 : Int32))) (Arv_15 : Arv Z h0 co kco .boolean (3 : Int32) (own_ar 3 CO) (.int (0 : Int32))) (Arv_16 : Arv Z h0 de kde .int (3 : Int32) (own_ar 3 DE) (.int (0 : Int32))) (Arv_17 : Arv Z h0 ro kro .int (3 : Int32) (own_ar 3 RO) (.int (0 : Int32))) (Arv_18 : Arv Z h0 rd krd .int (64 : Int32) (own_ar 64 RD) (.int (0 : Int32))) (ge_19 : n0 ≤ a) (ge_20 : n0 ≤ ri) (ge_21 : n0 ≤ le) (ge_22 : n0 ≤ ch) (ge_23 : n0 ≤ co) (ge_24 : n0 ≤ de) (ge_25 : n0 ≤ ro) (ge_26 : n0 ≤ rd) (h_x1 : (x1 < 3)) (h_x2 : (x2 < 3)) (hd12 : (x1 ≠ x2)) (eC : (CH x1 = (-1))) (eR1 : (RI x1 = x2)) (eL1 : (LE x1 = x2)) (eD : (DE x2 = 0)) (eZ0 : (RD 0 = (-1))) (ne_a_ri : a ≠ ri) (ne_le_ri : le ≠ ri) (ne_a_le : a ≠ le) (ne_de_le : de ≠ le) (ne_de_ri : de ≠ ri) (ne_le_ro : le ≠ ro) (ne_ri_ro : ri ≠ ro) (ne_le_rd : le ≠ rd) (ne_rd_ri : rd ≠ ri) (ne_a_ro : a ≠ ro) (ne_de_ro : de ≠ ro) (ne_rd_ro : rd ≠ ro) (ne_a_rd : a ≠ rd) (ne_co_le : co ≠ le) (ne_co_ri : co ≠ ri) (ne_a_co : a ≠ co) (ne_co_rd : co ≠ rd) (ne_co_ro : co ≠ ro) (ne_ch_le : ch ≠ le) (ne_ch_ri : ch ≠ ri) (ne_a_ch : a ≠ ch) (ne_ch_rd : ch ≠ rd) (ne_ch_ro : ch ≠ ro) (ne_ch_co : ch ≠ co) :
    MetFree l (⟨"com/example/hornwork/hornwork/FibonacciHeap", "removeLeast", "()I"⟩ : MethodName) (head1 (Jvm.Cond.code (⟨"com/example/hornwork/hornwork/FibonacciHeap", "removeLeast", "()I"⟩ : MethodName) prog_25_method_7_code 4 (some .int) :: ws) ({ frames := 2, cells := 0, slots := 0, locals := 34 } : Room)) (fun A9 U9 => A9 = #[(.ref a)] ∧ Z.Warmed39 U9.vm ∧ U9.heap = h0) (fun _ _ _ _ _ => True) (fun _ U9 o9 V9 => ∃ v9 L9, o9 = .returned v9 ∧ (Q9_B Z a ky pa ch le ri de mk co ro rd kri kle kch kco kde kro krd RI LE CH CO DE RO RD x1 x2 h0 n0) v9 V9.heap L9 ∧ FrameEnd U9 o9 V9 L9 ({ frames := 2, cells := 0, slots := 0, locals := 34 } : Room).cells ({ frames := 2, cells := 0, slots := 0, locals := 34 } : Room).slots) := by
  refine met_of (Q := (Q9_B Z a ky pa ch le ri de mk co ro rd kri kle kch kco kde kro krd RI LE CH CO DE RO RD x1 x2 h0 n0)) pn_9 ?_
  intro p e s m below meth c T0 C X0 e0
  have N0 := Fr.nil n0
  refine Go.cast (ef_9_B m a) ?_
  refine waloadN C X0 f9_0 rfl rfl ?_
  refine wget C X0 (host := "") (Or.inl (tw_13 hw)) Via.refl e0 Fld_11 f9_1 ?_
  intro T1 X1 e1
  refine wistoreN C X1 f9_4 #[.val (.ref a), .val (.int (Int32.ofInt x1)), .unset, .unset] rfl ?_
  refine waloadN C X1 f9_5 rfl rfl ?_
  refine wget C X1 (host := "") (Or.inl (tw_20 hw)) Via.refl e1 Fld_3 f9_6 ?_
  intro T2 X2 e2
  refine wiloadN C X2 f9_9 rfl ?_
  refine wiaload C X2 e2 Arv_14 f9_10 (own_fx _ (by omega)) (i := x1) (own_fc _ (by omega)) (v := (-1 : Int32)) (own_vi (own_ar_at (by omega) (eC)) (by decide)) ?_
  refine wistoreN C X2 f9_11 #[.val (.ref a), .val (.int (Int32.ofInt x1)), .val (.int (-1 : Int32)), .unset] rfl ?_
  refine wiloadN C X2 f9_12 rfl ?_
  refine wiconst C X2 f9_13 (-1 : Int32) rfl ?_
  refine wicmp_eq C X2 f9_14 ?_ (fun q => absurd (by decide : ((-1 : Int32) = (-1 : Int32))) q)
  intro _
  refine waloadN C X2 f9_44 rfl rfl ?_
  refine wget C X2 (host := "") (Or.inl (tw_24 hw)) Via.refl e2 Fld_5 f9_45 ?_
  intro T3 X3 e3
  refine wiloadN C X3 f9_48 rfl ?_
  refine wiaload C X3 e3 Arv_12 f9_49 (own_fx _ (by omega)) (i := x1) (own_fc _ (by omega)) (v := (Int32.ofInt x2)) (own_ar_at (by omega) (eR1)) ?_
  refine wiloadN C X3 f9_50 rfl ?_
  refine wicmp_ne C X3 f9_51 (fun q => absurd q (own_fe _ (by omega) _ (by omega) (by omega))) ?_
  intro _
  refine waloadN C X3 f9_62 rfl rfl ?_
  refine wget C X3 (host := "") (Or.inl (tw_24 hw)) Via.refl e3 Fld_5 f9_63 ?_
  intro T4 X4 e4
  refine wiloadN C X4 f9_66 rfl ?_
  refine wiaload C X4 e4 Arv_12 f9_67 (own_fx _ (by omega)) (i := x1) (own_fc _ (by omega)) (v := (Int32.ofInt x2)) (own_ar_at (by omega) (eR1)) ?_
  refine wistoreN C X4 f9_68 #[.val (.ref a), .val (.int (Int32.ofInt x1)), .val (.int (-1 : Int32)), .val (.int (Int32.ofInt x2))] rfl ?_
  refine waloadN C X4 f9_69 rfl rfl ?_
  refine wiloadN C X4 f9_70 rfl ?_
  refine wprivateI C X4 (y := (⟨"com/example/hornwork/hornwork/FibonacciHeap", "unlink", "(I)V"⟩ : MethodName)) (tw_66 hw) (tw_67 hw) (tw_2 hw) (tw_68 hw) (tw_69 hw) (tw_3 hw) (by decide) (rm10 l Z a0 hw [] a x1 ri le kri kle RI LE x2 x2 h0 n0 Z0 Exa_0 Fld_5 Fld_4 Arv_12 Arv_13 ge_20 ge_21 (by omega) (by omega) (by omega) (by omega) (eR1) (eL1) ne_a_ri ne_le_ri ne_a_le) e4 (a := a) Exa_0 f9_71 (argsL := [(.int (Int32.ofInt x1))]) (rest := []) rfl rfl (lenOf pd_0 rfl) rfl (W := 0) (Nat.le_of_eq rfl) (by decide) (by decide) (by decide) (by decide) ?_
  intro v5 T5 L5 X5 q5
  obtain ⟨rfl, Nq5, K5, G5_0, G5_1⟩ := q5
  have N5 := Fr.app N0 Nq5
  show Go p e below s _ _ _ T5 (mkF m 74 #[.val (.ref a), .val (.int (Int32.ofInt x1)), .val (.int (-1 : Int32)), .val (.int (Int32.ofInt x2))] [])
  refine waloadN C X5 f9_74 rfl rfl ?_
  refine wiloadN C X5 f9_75 rfl ?_
  have q7 := (Arv_17.keep K5 (ninS (Ne.symm ne_ri_ro) (ninS (Ne.symm ne_le_ro) nin0)))
  have q8 := (Arv_18.keep K5 (ninS ne_rd_ri (ninS (Ne.symm ne_le_rd) nin0)))
  refine wprivateI C X5 (y := (⟨"com/example/hornwork/hornwork/FibonacciHeap", "consolidate", "(I)V"⟩ : MethodName)) (tw_70 hw) (tw_71 hw) (tw_2 hw) (tw_72 hw) (tw_73 hw) (tw_3 hw) (by decide) (rm11_1 l Z a0 hw [] a x2 ky pa ch le ri de mk co ro rd kri kde kro krd (own_upd (own_upd RI x2 x2) x1 x1) DE RO RD (Int32.ofInt x1) T5.heap n0 (Nat.le_trans Z0 K5.1) (Exa_0.keep K5) (Fld_1.keep K5 (ninS ne_a_ri (ninS ne_a_le nin0))) (Fld_2.keep K5 (ninS ne_a_ri (ninS ne_a_le nin0))) (Fld_3.keep K5 (ninS ne_a_ri (ninS ne_a_le nin0))) (Fld_4.keep K5 (ninS ne_a_ri (ninS ne_a_le nin0))) (Fld_5.keep K5 (ninS ne_a_ri (ninS ne_a_le nin0))) (Fld_6.keep K5 (ninS ne_a_ri (ninS ne_a_le nin0))) (Fld_7.keep K5 (ninS ne_a_ri (ninS ne_a_le nin0))) (Fld_8.keep K5 (ninS ne_a_ri (ninS ne_a_le nin0))) (Fld_9.keep K5 (ninS ne_a_ri (ninS ne_a_le nin0))) (Fld_10.keep K5 (ninS ne_a_ri (ninS ne_a_le nin0))) (Fld_11.keep K5 (ninS ne_a_ri (ninS ne_a_le nin0))) G5_0 (Arv_16.keep K5 (ninS ne_de_ri (ninS ne_de_le nin0))) q7 q8 ge_19 ge_25 ge_26 (by omega) ((own_un (by omega)).trans (own_us _ _ _)) (eD) (eZ0) ne_a_ro ne_ri_ro ne_de_ro ne_rd_ro ne_a_rd) rfl (a := a) (Exa_0.keep K5) f9_76 (argsL := [(.int (Int32.ofInt x2))]) (rest := []) rfl rfl (lenOf pd_0 rfl) rfl (W := 0) (Nat.le_of_eq rfl) (by decide) (by decide) (by decide) (by decide) ?_
  intro v6 T6 L6 X6 q6
  obtain ⟨rfl, Nq6, K6, G6_0, G6_1, G6_2, G6_3, G6_4, G6_5, G6_6, G6_7, G6_8, G6_9, G6_10, G6_11, G6_12, G6_13⟩ := q6
  have N6 := Fr.app N5 Nq6
  show Go p e below s _ _ _ T6 (mkF m 79 #[.val (.ref a), .val (.int (Int32.ofInt x1)), .val (.int (-1 : Int32)), .val (.int (Int32.ofInt x2))] [])
  refine waloadN C X6 f9_79 rfl rfl ?_
  refine wget C X6 (host := "") (Or.inl (tw_31 hw)) Via.refl rfl G6_8 f9_80 ?_
  intro T9 X9 e9
  refine wiloadN C X9 f9_83 rfl ?_
  refine wiconst C X9 f9_84 (0 : Int32) rfl ?_
  have q10 := ((Arv_15.keep K5 (ninS ne_co_ri (ninS ne_co_le nin0))).keep K6 (ninS ne_co_ro (ninS ne_co_rd (ninS (Ne.symm ne_a_co) nin0))))
  refine wbastoreZ C X9 e9 q10 f9_85 (own_fx _ (by omega)) x1 (own_fc _ (by omega)) (by rw [own_ar_len]; omega) (own_ar 3 (own_upd CO x1 0)) (own_ar_set (by omega) (by decide)) ?_
  intro T11 h11 sl11 w11 X11 e11 W11 V11
  have N11 := Fr.snoc X11 N6 ge_23
  refine waloadN C X11 f9_86 rfl rfl ?_
  refine wget C X11 (host := "") (Or.inl (tw_20 hw)) Via.refl e11 (G6_3.other W11 (Or.inl ne_a_co)) f9_87 ?_
  intro T12 X12 e12
  refine wiloadN C X12 f9_90 rfl ?_
  refine wiconst C X12 f9_91 (-1 : Int32) rfl ?_
  have q13 := (((Arv_14.keep K5 (ninS ne_ch_ri (ninS ne_ch_le nin0))).keep K6 (ninS ne_ch_ro (ninS ne_ch_rd (ninS (Ne.symm ne_a_ch) nin0)))).other W11 ne_ch_co)
  refine wiastore C X12 e12 q13 f9_92 (own_fx _ (by omega)) x1 (own_fc _ (by omega)) (by rw [own_ar_len]; omega) (own_ar 3 (own_upd CH x1 (-1))) (own_ar_set (by omega) (by decide)) ?_
  intro T14 h14 sl14 w14 X14 e14 W14 V14
  have N14 := Fr.snoc X14 N11 ge_22
  refine wiloadN C X14 f9_93 rfl ?_
  refine wiret C X14 f9_94 rfl (by decide) (by decide) ?_
  rw [e14]
  have q15 := (((((Keep.refl h0 [ri, le, ch, co, ro, rd, a]).trans K5 (allS (Or.inl (List.mem_of_getElem? (i := 0) rfl)) (allS (Or.inl (List.mem_of_getElem? (i := 1) rfl)) all0))).trans K6 (allS (Or.inl (List.mem_of_getElem? (i := 4) rfl)) (allS (Or.inl (List.mem_of_getElem? (i := 5) rfl)) (allS (Or.inl (List.mem_of_getElem? (i := 6) rfl)) all0)))).wr W11 (Or.inl (List.mem_of_getElem? (i := 3) rfl))).wr W14 (Or.inl (List.mem_of_getElem? (i := 2) rfl)))
  have q16 := ((G6_1.other W11 (Or.inl ne_a_co)).other W14 (Or.inl ne_a_ch))
  have q17 := ((G6_2.other W11 (Or.inl ne_a_co)).other W14 (Or.inl ne_a_ch))
  have q18 := ((G6_3.other W11 (Or.inl ne_a_co)).other W14 (Or.inl ne_a_ch))
  have q19 := ((G6_4.other W11 (Or.inl ne_a_co)).other W14 (Or.inl ne_a_ch))
  have q20 := ((G6_5.other W11 (Or.inl ne_a_co)).other W14 (Or.inl ne_a_ch))
  have q21 := ((G6_6.other W11 (Or.inl ne_a_co)).other W14 (Or.inl ne_a_ch))
  have q22 := ((G6_7.other W11 (Or.inl ne_a_co)).other W14 (Or.inl ne_a_ch))
  have q23 := ((G6_8.other W11 (Or.inl ne_a_co)).other W14 (Or.inl ne_a_ch))
  have q24 := ((G6_9.other W11 (Or.inl ne_a_co)).other W14 (Or.inl ne_a_ch))
  have q25 := ((G6_10.other W11 (Or.inl ne_a_co)).other W14 (Or.inl ne_a_ch))
  have q26 := ((G6_11.other W11 (Or.inl ne_a_co)).other W14 (Or.inl ne_a_ch))
  have q27 := (((G5_0.keep K6 (ninS ne_ri_ro (ninS (Ne.symm ne_rd_ri) (ninS (Ne.symm ne_a_ri) nin0)))).other W11 (Ne.symm ne_co_ri)).other W14 (Ne.symm ne_ch_ri))
  have q28 := (((G5_1.keep K6 (ninS ne_le_ro (ninS ne_le_rd (ninS (Ne.symm ne_a_le) nin0)))).other W11 (Ne.symm ne_co_le)).other W14 (Ne.symm ne_ch_le))
  have q29 := ((G6_12.other W11 (Ne.symm ne_co_ro)).other W14 (Ne.symm ne_ch_ro))
  have q30 := ((G6_13.other W11 (Ne.symm ne_co_rd)).other W14 (Ne.symm ne_ch_rd))
  exact ⟨rfl, N14, q15, ((G6_0.wr W11).wr W14), q16, q17, q18, q19, q20, q21, q22, q23, q24, q25, q26, q27, q28, V14, (V11.other W14 (Ne.symm ne_ch_co)), q29, q30⟩
theorem f9_17 : Dec prog_25_method_7_code 17 (.iload_n 2) 1 18 := ⟨by decide +kernel, rfl⟩
theorem f9_18 : Dec prog_25_method_7_code 18 (.istore_n 3) 1 19 := ⟨by decide +kernel, rfl⟩
theorem f9_19 : Dec prog_25_method_7_code 19 (.aload_n 0) 1 20 := ⟨by decide +kernel, rfl⟩
theorem f9_20 : Dec prog_25_method_7_code 20 (.getfield 21) 3 23 := ⟨by decide +kernel, rfl⟩
theorem f9_23 : Dec prog_25_method_7_code 23 (.iload_n 3) 1 24 := ⟨by decide +kernel, rfl⟩
theorem f9_24 : Dec prog_25_method_7_code 24 (.iconst (-1)) 1 25 := ⟨by decide +kernel, rfl⟩
theorem f9_25 : Dec prog_25_method_7_code 25 (.iastore) 1 26 := ⟨by decide +kernel, rfl⟩
theorem f9_26 : Dec prog_25_method_7_code 26 (.aload_n 0) 1 27 := ⟨by decide +kernel, rfl⟩
theorem f9_27 : Dec prog_25_method_7_code 27 (.getfield 30) 3 30 := ⟨by decide +kernel, rfl⟩
theorem f9_30 : Dec prog_25_method_7_code 30 (.iload_n 3) 1 31 := ⟨by decide +kernel, rfl⟩
theorem f9_31 : Dec prog_25_method_7_code 31 (.iaload) 1 32 := ⟨by decide +kernel, rfl⟩
theorem f9_32 : Dec prog_25_method_7_code 32 (.istore_n 3) 1 33 := ⟨by decide +kernel, rfl⟩
theorem f9_33 : Dec prog_25_method_7_code 33 (.iload_n 3) 1 34 := ⟨by decide +kernel, rfl⟩
theorem f9_34 : Dec prog_25_method_7_code 34 (.iload_n 2) 1 35 := ⟨by decide +kernel, rfl⟩
theorem f9_35 : DecJ prog_25_method_7_code 35 (.if_icmp .ne (-16)) (-16) 19 38 := ⟨by decide +kernel, by decide, by decide, rfl⟩
theorem f9_38 : Dec prog_25_method_7_code 38 (.aload_n 0) 1 39 := ⟨by decide +kernel, rfl⟩
theorem f9_39 : Dec prog_25_method_7_code 39 (.iload_n 1) 1 40 := ⟨by decide +kernel, rfl⟩
theorem f9_40 : Dec prog_25_method_7_code 40 (.iload_n 2) 1 41 := ⟨by decide +kernel, rfl⟩
theorem f9_41 : Dec prog_25_method_7_code 41 (.invokevirtual 74) 3 44 := ⟨by decide +kernel, rfl⟩
theorem ef_9_D (m : MethodId) (a : Addr) : entryFrame m #[(.ref a)] 4 = mkF m 0 #[.val (.ref a), .unset, .unset, .unset] [] := by first | (simp [entryFrame, mkF, argsToLocals, Value.category]; done) | rfl
def Q9_D (Z : State) (a : Addr) (ky : Addr) (pa : Addr) (ch : Addr) (le : Addr) (ri : Addr) (de : Addr) (mk : Addr) (co : Addr) (ro : Addr) (rd : Addr) (kri : ClassId) (kle : ClassId) (kch : ClassId) (kpa : ClassId) (kco : ClassId) (kde : ClassId) (kro : ClassId) (krd : ClassId) (RI : Nat → Int) (LE : Nat → Int) (CH : Nat → Int) (PA : Nat → Int) (CO : Nat → Int) (DE : Nat → Int) (RO : Nat → Int) (RD : Nat → Int) (x1 : Nat) (x2 : Nat) (h0 : Heap) (n0 : Nat) (v9 : Option Value) (h9 : Heap) (L9 : List Loc) : Prop := v9 = some (.int (Int32.ofInt x1)) ∧ Fr n0 L9 ∧ Keep h0 h9 [ri, le, ch, pa, co, ro, rd, a] ∧ Exa Z h9 a "com/example/hornwork/hornwork/FibonacciHeap" ∧ Fld Z h9 a "com/example/hornwork/hornwork/FibonacciHeap" "key" "[D" (.ref ky) ∧ Fld Z h9 a "com/example/hornwork/hornwork/FibonacciHeap" "parent" "[I" (.ref pa) ∧ Fld Z h9 a "com/example/hornwork/hornwork/FibonacciHeap" "child" "[I" (.ref ch) ∧ Fld Z h9 a "com/example/hornwork/hornwork/FibonacciHeap" "left" "[I" (.ref le) ∧ Fld Z h9 a "com/example/hornwork/hornwork/FibonacciHeap" "right" "[I" (.ref ri) ∧ Fld Z h9 a "com/example/hornwork/hornwork/FibonacciHeap" "degree" "[I" (.ref de) ∧ Fld Z h9 a "com/example/hornwork/hornwork/FibonacciHeap" "marked" "[Z" (.ref mk) ∧ Fld Z h9 a "com/example/hornwork/hornwork/FibonacciHeap" "contained" "[Z" (.ref co) ∧ Fld Z h9 a "com/example/hornwork/hornwork/FibonacciHeap" "roots" "[I" (.ref ro) ∧ Fld Z h9 a "com/example/hornwork/hornwork/FibonacciHeap" "rootOfDegree" "[I" (.ref rd) ∧ Fld Z h9 a "com/example/hornwork/hornwork/FibonacciHeap" "least" "I" (.int (Int32.ofInt x2)) ∧ Arv Z h9 ri kri .int (3 : Int32) (own_ar 3 (own_upd (own_upd (own_upd (own_upd RI x1 x2) x2 x1) x2 x2) x1 x1)) (.int (0 : Int32)) ∧ Arv Z h9 le kle .int (3 : Int32) (own_ar 3 (own_upd (own_upd (own_upd (own_upd LE x2 x1) x1 x2) x2 x2) x1 x1)) (.int (0 : Int32)) ∧ Arv Z h9 ch kch .int (3 : Int32) (own_ar 3 (own_upd CH x1 (-1))) (.int (0 : Int32)) ∧ Arv Z h9 pa kpa .int (3 : Int32) (own_ar 3 (own_upd PA x2 (-1))) (.int (0 : Int32)) ∧ Arv Z h9 co kco .boolean (3 : Int32) (own_ar 3 (own_upd CO x1 0)) (.int (0 : Int32)) ∧ Arv Z h9 ro kro .int (3 : Int32) (own_ar 3 (own_upd RO 0 x2)) (.int (0 : Int32)) ∧ Arv Z h9 rd krd .int (64 : Int32) (own_ar 64 (own_upd (own_upd RD 0 x2) 0 (-1))) (.int (0 : Int32))
set_option maxRecDepth 65536 in
set_option maxHeartbeats 40000000 in
theorem rm9_D (l : Launch) (Z : State) (a0 : Array Value) (hw : ∀ d ∈ tables_1, d.before a0 Z = true) (ws : List Jvm.Cond) (a : Addr) (ky : Addr) (pa : Addr) (ch : Addr) (le : Addr) (ri : Addr) (de : Addr) (mk : Addr) (co : Addr) (ro : Addr) (rd : Addr) (kri : ClassId) (kle : ClassId) (kch : ClassId) (kpa : ClassId) (kco : ClassId) (kde : ClassId) (kro : ClassId) (krd : ClassId) (RI : Nat → Int) (LE : Nat → Int) (CH : Nat → Int) (PA : Nat → Int) (CO : Nat → Int) (DE : Nat → Int) (RO : Nat → Int) (RD : Nat → Int) (x1 : Nat) (x2 : Nat) (h0 : Heap) (n0 : Nat) (Z0 : n0 ≤ h0.size) (Exa_0 : Exa Z h0 a "com/example/hornwork/hornwork/FibonacciHeap") (Fld_1 : Fld Z h0 a "com/example/hornwork/hornwork/FibonacciHeap" "key" "[D" (.ref ky)) (Fld_2 : Fld Z h0 a "com/example/hornwork/hornwork/FibonacciHeap" "parent" "[I" (.ref pa)) (Fld_3 : Fld Z h0 a "com/example/hornwork/hornwork/FibonacciHeap" "child" "[I" (.ref ch)) (Fld_4 : Fld Z h0 a "com/example/hornwork/hornwork/FibonacciHeap" "left" "[I" (.ref le)) (Fld_5 : Fld Z h0 a "com/example/hornwork/hornwork/FibonacciHeap" "right" "[I" (.ref ri)) (Fld_6 : Fld Z h0 a "com/example/hornwork/hornwork/FibonacciHeap" "degree" "[I" (.ref de)) (Fld_7 : Fld Z h0 a "com/example/hornwork/hornwork/FibonacciHeap" "marked" "[Z" (.ref mk)) (Fld_8 : Fld Z h0 a "com/example/hornwork/hornwork/FibonacciHeap" "contained" "[Z" (.ref co)) (Fld_9 : Fld Z h0 a "com/example/hornwork/hornwork/FibonacciHeap" "roots" "[I" (.ref ro)) (Fld_10 : Fld Z h0 a "com/example/hornwork/hornwork/FibonacciHeap" "rootOfDegree" "[I" (.ref rd)) (Fld_11 : Fld Z h0 a "com/example/hornwork/hornwork/FibonacciHeap" "least" "I" (.int (Int32.ofInt x1))) (Arv_12 : Arv Z h0 ri kri .int (3 : Int32) (own_ar 3 RI) (.int (0 : Int32))) (Arv_13 : Arv Z h0 le kle .int (3 : Int32) (own_ar 3 LE) (.int (0 : Int32))) (Arv_14 : Arv Z h0 ch kch .int (3 : Int32) (own_ar 3 CH) (.int (0 : Int32))) (Arv_15 : Arv Z h0 pa kpa .int (3 : Int32) (own_ar 3 PA) (.int (0 : Int32))) (Arv_16 : Arv Z h0 co kco .boolean (3 : Int32) (own_ar 3 CO) (.int (0 : Int32))) (Arv_17 : Arv Z h0 de kde .int (3 : Int32) (own_ar 3 DE) (.int (0 : Int32))) (Arv_18 : Arv Z h0 ro kro .int (3 : Int32) (own_ar 3 RO) (.int (0 : Int32))) (Arv_19 : Arv Z h0 rd krd .int (64 : Int32) (own_ar 64 RD) (.int (0 : Int32))) (ge_20 : n0 ≤ a) (ge_21 : n0 ≤ ri) (ge_22 : n0 ≤ le) (ge_23 : n0 ≤ ch) (ge_24 : n0 ≤ pa) (ge_25 : n0 ≤ co) (ge_26 : n0 ≤ de) (ge_27 : n0 ≤ ro) (ge_28 : n0 ≤ rd) (h_x1 : (x1 < 3)) (h_x2 : (x2 < 3)) (hd12 : (x1 ≠ x2)) (eC : (CH x1 = x2)) (eR1 : (RI x1 = x1)) (eR2 : (RI x2 = x2)) (eL2 : (LE x2 = x2)) (eD : (DE x2 = 0)) (eZ0 : (RD 0 = (-1))) (ne_a_pa : a ≠ pa) (ne_pa_ri : pa ≠ ri) (ne_le_pa : le ≠ pa) (ne_a_ri : a ≠ ri) (ne_le_ri : le ≠ ri) (ne_a_le : a ≠ le) (ne_de_pa : de ≠ pa) (ne_de_le : de ≠ le) (ne_de_ri : de ≠ ri) (ne_pa_ro : pa ≠ ro) (ne_le_ro : le ≠ ro) (ne_ri_ro : ri ≠ ro) (ne_pa_rd : pa ≠ rd) (ne_le_rd : le ≠ rd) (ne_rd_ri : rd ≠ ri) (ne_a_ro : a ≠ ro) (ne_de_ro : de ≠ ro) (ne_rd_ro : rd ≠ ro) (ne_a_rd : a ≠ rd) (ne_co_pa : co ≠ pa) (ne_co_le : co ≠ le) (ne_co_ri : co ≠ ri) (ne_a_co : a ≠ co) (ne_co_rd : co ≠ rd) (ne_co_ro : co ≠ ro) (ne_ch_pa : ch ≠ pa) (ne_ch_le : ch ≠ le) (ne_ch_ri : ch ≠ ri) (ne_a_ch : a ≠ ch) (ne_ch_rd : ch ≠ rd) (ne_ch_ro : ch ≠ ro) (ne_ch_co : ch ≠ co) :
    MetFree l (⟨"com/example/hornwork/hornwork/FibonacciHeap", "removeLeast", "()I"⟩ : MethodName) (head1 (Jvm.Cond.code (⟨"com/example/hornwork/hornwork/FibonacciHeap", "removeLeast", "()I"⟩ : MethodName) prog_25_method_7_code 4 (some .int) :: ws) ({ frames := 2, cells := 0, slots := 0, locals := 34 } : Room)) (fun A9 U9 => A9 = #[(.ref a)] ∧ Z.Warmed39 U9.vm ∧ U9.heap = h0) (fun _ _ _ _ _ => True) (fun _ U9 o9 V9 => ∃ v9 L9, o9 = .returned v9 ∧ (Q9_D Z a ky pa ch le ri de mk co ro rd kri kle kch kpa kco kde kro krd RI LE CH PA CO DE RO RD x1 x2 h0 n0) v9 V9.heap L9 ∧ FrameEnd U9 o9 V9 L9 ({ frames := 2, cells := 0, slots := 0, locals := 34 } : Room).cells ({ frames := 2, cells := 0, slots := 0, locals := 34 } : Room).slots) := by
  refine met_of (Q := (Q9_D Z a ky pa ch le ri de mk co ro rd kri kle kch kpa kco kde kro krd RI LE CH PA CO DE RO RD x1 x2 h0 n0)) pn_9 ?_
  intro p e s m below meth c T0 C X0 e0
  have N0 := Fr.nil n0
  refine Go.cast (ef_9_D m a) ?_
  refine waloadN C X0 f9_0 rfl rfl ?_
  refine wget C X0 (host := "") (Or.inl (tw_13 hw)) Via.refl e0 Fld_11 f9_1 ?_
  intro T1 X1 e1
  refine wistoreN C X1 f9_4 #[.val (.ref a), .val (.int (Int32.ofInt x1)), .unset, .unset] rfl ?_
  refine waloadN C X1 f9_5 rfl rfl ?_
  refine wget C X1 (host := "") (Or.inl (tw_20 hw)) Via.refl e1 Fld_3 f9_6 ?_
  intro T2 X2 e2
  refine wiloadN C X2 f9_9 rfl ?_
  refine wiaload C X2 e2 Arv_14 f9_10 (own_fx _ (by omega)) (i := x1) (own_fc _ (by omega)) (v := (Int32.ofInt x2)) (own_ar_at (by omega) (eC)) ?_
  refine wistoreN C X2 f9_11 #[.val (.ref a), .val (.int (Int32.ofInt x1)), .val (.int (Int32.ofInt x2)), .unset] rfl ?_
  refine wiloadN C X2 f9_12 rfl ?_
  refine wiconst C X2 f9_13 (-1 : Int32) rfl ?_
  refine wicmp_eq C X2 f9_14 (fun q => absurd q (own_fm _ (by omega))) ?_
  intro _
  refine wiloadN C X2 f9_17 rfl ?_
  refine wistoreN C X2 f9_18 #[.val (.ref a), .val (.int (Int32.ofInt x1)), .val (.int (Int32.ofInt x2)), .val (.int (Int32.ofInt x2))] rfl ?_
  refine waloadN C X2 f9_19 rfl rfl ?_
  refine wget C X2 (host := "") (Or.inl (tw_18 hw)) Via.refl e2 Fld_2 f9_20 ?_
  intro T3 X3 e3
  refine wiloadN C X3 f9_23 rfl ?_
  refine wiconst C X3 f9_24 (-1 : Int32) rfl ?_
  refine wiastore C X3 e3 Arv_15 f9_25 (own_fx _ (by omega)) x2 (own_fc _ (by omega)) (by rw [own_ar_len]; omega) (own_ar 3 (own_upd PA x2 (-1))) (own_ar_set (by omega) (by decide)) ?_
  intro T4 h4 sl4 w4 X4 e4 W4 V4
  have N4 := Fr.snoc X4 N0 ge_24
  refine waloadN C X4 f9_26 rfl rfl ?_
  refine wget C X4 (host := "") (Or.inl (tw_24 hw)) Via.refl e4 (Fld_5.other W4 (Or.inl ne_a_pa)) f9_27 ?_
  intro T5 X5 e5
  refine wiloadN C X5 f9_30 rfl ?_
  refine wiaload C X5 e5 (Arv_12.other W4 (Ne.symm ne_pa_ri)) f9_31 (own_fx _ (by omega)) (i := x2) (own_fc _ (by omega)) (v := (Int32.ofInt x2)) (own_ar_at (by omega) (eR2)) ?_
  refine wistoreN C X5 f9_32 #[.val (.ref a), .val (.int (Int32.ofInt x1)), .val (.int (Int32.ofInt x2)), .val (.int (Int32.ofInt x2))] rfl ?_
  refine wiloadN C X5 f9_33 rfl ?_
  refine wiloadN C X5 f9_34 rfl ?_
  refine wicmp_ne C X5 f9_35 ?_ (fun q => absurd (rfl : (Int32.ofInt x2) = (Int32.ofInt x2)) q)
  intro _
  refine waloadN C X5 f9_38 rfl rfl ?_
  refine wiloadN C X5 f9_39 rfl ?_
  refine wiloadN C X5 f9_40 rfl ?_
  refine wprivateI C X5 (y := (⟨"com/example/hornwork/hornwork/FibonacciHeap", "splice", "(II)V"⟩ : MethodName)) (tw_53 hw) (tw_54 hw) (tw_2 hw) (tw_55 hw) (tw_56 hw) (tw_3 hw) (by decide) (rm7 l Z a0 hw [] a x1 x2 ri le kri kle RI LE x1 x2 h4 n0 (Nat.le_trans Z0 (Nat.le_of_eq W4.size.symm)) (Exa_0.wr W4) (Fld_5.other W4 (Or.inl ne_a_pa)) (Fld_4.other W4 (Or.inl ne_a_pa)) (Arv_12.other W4 (Ne.symm ne_pa_ri)) (Arv_13.other W4 ne_le_pa) ge_21 ge_22 (by omega) (by omega) (by omega) (by omega) (eR1) (eL2) ne_a_ri ne_le_ri ne_a_le) e5 (a := a) (Exa_0.wr W4) f9_41 (argsL := [(.int (Int32.ofInt x1)), (.int (Int32.ofInt x2))]) (rest := []) rfl rfl (lenOf pd_1 rfl) rfl (W := 0) (Nat.le_of_eq rfl) (by decide) (by decide) (by decide) (by decide) ?_
  intro v6 T6 L6 X6 q6
  obtain ⟨rfl, Nq6, K6, G6_0, G6_1⟩ := q6
  have q7 := (Nat.le_trans (Nat.le_refl h0.size) (Nat.le_of_eq W4.size.symm))
  have N6 := Fr.app N4 Nq6
  show Go p e below s _ _ _ T6 (mkF m 44 #[.val (.ref a), .val (.int (Int32.ofInt x1)), .val (.int (Int32.ofInt x2)), .val (.int (Int32.ofInt x2))] [])
  refine waloadN C X6 f9_44 rfl rfl ?_
  have q8 := ((Fld_5.other W4 (Or.inl ne_a_pa)).keep K6 (ninS ne_a_ri (ninS ne_a_le nin0)))
  refine wget C X6 (host := "") (Or.inl (tw_24 hw)) Via.refl rfl q8 f9_45 ?_
  intro T9 X9 e9
  refine wiloadN C X9 f9_48 rfl ?_
  refine wiaload C X9 e9 G6_0 f9_49 (own_fx _ (by omega)) (i := x1) (own_fc _ (by omega)) (v := (Int32.ofInt x2)) (own_ar_at (by omega) ((own_un (by omega)).trans (own_us _ _ _))) ?_
  refine wiloadN C X9 f9_50 rfl ?_
  refine wicmp_ne C X9 f9_51 (fun q => absurd q (own_fe _ (by omega) _ (by omega) (by omega))) ?_
  intro _
  refine waloadN C X9 f9_62 rfl rfl ?_
  refine wget C X9 (host := "") (Or.inl (tw_24 hw)) Via.refl e9 q8 f9_63 ?_
  intro T10 X10 e10
  refine wiloadN C X10 f9_66 rfl ?_
  refine wiaload C X10 e10 G6_0 f9_67 (own_fx _ (by omega)) (i := x1) (own_fc _ (by omega)) (v := (Int32.ofInt x2)) (own_ar_at (by omega) ((own_un (by omega)).trans (own_us _ _ _))) ?_
  refine wistoreN C X10 f9_68 #[.val (.ref a), .val (.int (Int32.ofInt x1)), .val (.int (Int32.ofInt x2)), .val (.int (Int32.ofInt x2))] rfl ?_
  refine waloadN C X10 f9_69 rfl rfl ?_
  refine wiloadN C X10 f9_70 rfl ?_
  have q12 := ((Fld_4.other W4 (Or.inl ne_a_pa)).keep K6 (ninS ne_a_ri (ninS ne_a_le nin0)))
  have q13 := (Nat.le_trans (Nat.le_trans Z0 (Nat.le_of_eq W4.size.symm)) K6.1)
  refine wprivateI C X10 (y := (⟨"com/example/hornwork/hornwork/FibonacciHeap", "unlink", "(I)V"⟩ : MethodName)) (tw_66 hw) (tw_67 hw) (tw_2 hw) (tw_68 hw) (tw_69 hw) (tw_3 hw) (by decide) (rm10 l Z a0 hw [] a x1 ri le kri kle (own_upd (own_upd RI x1 x2) x2 x1) (own_upd (own_upd LE x2 x1) x1 x2) x2 x2 T6.heap n0 q13 ((Exa_0.wr W4).keep K6) q8 q12 G6_0 G6_1 ge_21 ge_22 (by omega) (by omega) (by omega) (by omega) ((own_un (by omega)).trans (own_us _ _ _)) (own_us _ _ _) ne_a_ri ne_le_ri ne_a_le) e10 (a := a) ((Exa_0.wr W4).keep K6) f9_71 (argsL := [(.int (Int32.ofInt x1))]) (rest := []) rfl rfl (lenOf pd_0 rfl) rfl (W := 0) (Nat.le_of_eq rfl) (by decide) (by decide) (by decide) (by decide) ?_
  intro v11 T11 L11 X11 q11
  obtain ⟨rfl, Nq11, K11, G11_0, G11_1⟩ := q11
  have N11 := Fr.app N6 Nq11
  show Go p e below s _ _ _ T11 (mkF m 74 #[.val (.ref a), .val (.int (Int32.ofInt x1)), .val (.int (Int32.ofInt x2)), .val (.int (Int32.ofInt x2))] [])
  refine waloadN C X11 f9_74 rfl rfl ?_
  refine wiloadN C X11 f9_75 rfl ?_
  have q15 := (((Fld_1.other W4 (Or.inl ne_a_pa)).keep K6 (ninS ne_a_ri (ninS ne_a_le nin0))).keep K11 (ninS ne_a_ri (ninS ne_a_le nin0)))
  have q16 := (((Fld_2.other W4 (Or.inl ne_a_pa)).keep K6 (ninS ne_a_ri (ninS ne_a_le nin0))).keep K11 (ninS ne_a_ri (ninS ne_a_le nin0)))
  have q17 := (((Fld_3.other W4 (Or.inl ne_a_pa)).keep K6 (ninS ne_a_ri (ninS ne_a_le nin0))).keep K11 (ninS ne_a_ri (ninS ne_a_le nin0)))
  have q18 := (((Fld_6.other W4 (Or.inl ne_a_pa)).keep K6 (ninS ne_a_ri (ninS ne_a_le nin0))).keep K11 (ninS ne_a_ri (ninS ne_a_le nin0)))
  have q19 := (((Fld_7.other W4 (Or.inl ne_a_pa)).keep K6 (ninS ne_a_ri (ninS ne_a_le nin0))).keep K11 (ninS ne_a_ri (ninS ne_a_le nin0)))
  have q20 := (((Fld_8.other W4 (Or.inl ne_a_pa)).keep K6 (ninS ne_a_ri (ninS ne_a_le nin0))).keep K11 (ninS ne_a_ri (ninS ne_a_le nin0)))
  have q21 := (((Fld_9.other W4 (Or.inl ne_a_pa)).keep K6 (ninS ne_a_ri (ninS ne_a_le nin0))).keep K11 (ninS ne_a_ri (ninS ne_a_le nin0)))
  have q22 := (((Fld_10.other W4 (Or.inl ne_a_pa)).keep K6 (ninS ne_a_ri (ninS ne_a_le nin0))).keep K11 (ninS ne_a_ri (ninS ne_a_le nin0)))
  have q23 := (((Fld_11.other W4 (Or.inl ne_a_pa)).keep K6 (ninS ne_a_ri (ninS ne_a_le nin0))).keep K11 (ninS ne_a_ri (ninS ne_a_le nin0)))
  have q24 := (((Arv_17.other W4 ne_de_pa).keep K6 (ninS ne_de_ri (ninS ne_de_le nin0))).keep K11 (ninS ne_de_ri (ninS ne_de_le nin0)))
  have q25 := (((Arv_18.other W4 (Ne.symm ne_pa_ro)).keep K6 (ninS (Ne.symm ne_ri_ro) (ninS (Ne.symm ne_le_ro) nin0))).keep K11 (ninS (Ne.symm ne_ri_ro) (ninS (Ne.symm ne_le_ro) nin0)))
  have q26 := (((Arv_19.other W4 (Ne.symm ne_pa_rd)).keep K6 (ninS ne_rd_ri (ninS (Ne.symm ne_le_rd) nin0))).keep K11 (ninS ne_rd_ri (ninS (Ne.symm ne_le_rd) nin0)))
  refine wprivateI C X11 (y := (⟨"com/example/hornwork/hornwork/FibonacciHeap", "consolidate", "(I)V"⟩ : MethodName)) (tw_70 hw) (tw_71 hw) (tw_2 hw) (tw_72 hw) (tw_73 hw) (tw_3 hw) (by decide) (rm11_1 l Z a0 hw [] a x2 ky pa ch le ri de mk co ro rd kri kde kro krd (own_upd (own_upd (own_upd (own_upd RI x1 x2) x2 x1) x2 x2) x1 x1) DE RO RD (Int32.ofInt x1) T11.heap n0 (Nat.le_trans q13 K11.1) (((Exa_0.wr W4).keep K6).keep K11) q15 q16 q17 (q12.keep K11 (ninS ne_a_ri (ninS ne_a_le nin0))) (q8.keep K11 (ninS ne_a_ri (ninS ne_a_le nin0))) q18 q19 q20 q21 q22 q23 G11_0 q24 q25 q26 ge_20 ge_27 ge_28 (by omega) ((own_un (by omega)).trans (own_us _ _ _)) (eD) (eZ0) ne_a_ro ne_ri_ro ne_de_ro ne_rd_ro ne_a_rd) rfl (a := a) (((Exa_0.wr W4).keep K6).keep K11) f9_76 (argsL := [(.int (Int32.ofInt x2))]) (rest := []) rfl rfl (lenOf pd_0 rfl) rfl (W := 0) (Nat.le_of_eq rfl) (by decide) (by decide) (by decide) (by decide) ?_
  intro v14 T14 L14 X14 q14
  obtain ⟨rfl, Nq14, K14, G14_0, G14_1, G14_2, G14_3, G14_4, G14_5, G14_6, G14_7, G14_8, G14_9, G14_10, G14_11, G14_12, G14_13⟩ := q14
  have N14 := Fr.app N11 Nq14
  show Go p e below s _ _ _ T14 (mkF m 79 #[.val (.ref a), .val (.int (Int32.ofInt x1)), .val (.int (Int32.ofInt x2)), .val (.int (Int32.ofInt x2))] [])
  refine waloadN C X14 f9_79 rfl rfl ?_
  refine wget C X14 (host := "") (Or.inl (tw_31 hw)) Via.refl rfl G14_8 f9_80 ?_
  intro T27 X27 e27
  refine wiloadN C X27 f9_83 rfl ?_
  refine wiconst C X27 f9_84 (0 : Int32) rfl ?_
  have q28 := ((((Arv_16.other W4 ne_co_pa).keep K6 (ninS ne_co_ri (ninS ne_co_le nin0))).keep K11 (ninS ne_co_ri (ninS ne_co_le nin0))).keep K14 (ninS ne_co_ro (ninS ne_co_rd (ninS (Ne.symm ne_a_co) nin0))))
  refine wbastoreZ C X27 e27 q28 f9_85 (own_fx _ (by omega)) x1 (own_fc _ (by omega)) (by rw [own_ar_len]; omega) (own_ar 3 (own_upd CO x1 0)) (own_ar_set (by omega) (by decide)) ?_
  intro T29 h29 sl29 w29 X29 e29 W29 V29
  have N29 := Fr.snoc X29 N14 ge_25
  refine waloadN C X29 f9_86 rfl rfl ?_
  refine wget C X29 (host := "") (Or.inl (tw_20 hw)) Via.refl e29 (G14_3.other W29 (Or.inl ne_a_co)) f9_87 ?_
  intro T30 X30 e30
  refine wiloadN C X30 f9_90 rfl ?_
  refine wiconst C X30 f9_91 (-1 : Int32) rfl ?_
  have q31 := (((((Arv_14.other W4 ne_ch_pa).keep K6 (ninS ne_ch_ri (ninS ne_ch_le nin0))).keep K11 (ninS ne_ch_ri (ninS ne_ch_le nin0))).keep K14 (ninS ne_ch_ro (ninS ne_ch_rd (ninS (Ne.symm ne_a_ch) nin0)))).other W29 ne_ch_co)
  refine wiastore C X30 e30 q31 f9_92 (own_fx _ (by omega)) x1 (own_fc _ (by omega)) (by rw [own_ar_len]; omega) (own_ar 3 (own_upd CH x1 (-1))) (own_ar_set (by omega) (by decide)) ?_
  intro T32 h32 sl32 w32 X32 e32 W32 V32
  have N32 := Fr.snoc X32 N29 ge_23
  refine wiloadN C X32 f9_93 rfl ?_
  refine wiret C X32 f9_94 rfl (by decide) (by decide) ?_
  rw [e32]
  have q33 := (((((((Keep.refl h0 [ri, le, ch, pa, co, ro, rd, a]).wr W4 (Or.inl (List.mem_of_getElem? (i := 3) rfl))).trans K6 (allS (Or.inl (List.mem_of_getElem? (i := 0) rfl)) (allS (Or.inl (List.mem_of_getElem? (i := 1) rfl)) all0))).trans K11 (allS (Or.inl (List.mem_of_getElem? (i := 0) rfl)) (allS (Or.inl (List.mem_of_getElem? (i := 1) rfl)) all0))).trans K14 (allS (Or.inl (List.mem_of_getElem? (i := 5) rfl)) (allS (Or.inl (List.mem_of_getElem? (i := 6) rfl)) (allS (Or.inl (List.mem_of_getElem? (i := 7) rfl)) all0)))).wr W29 (Or.inl (List.mem_of_getElem? (i := 4) rfl))).wr W32 (Or.inl (List.mem_of_getElem? (i := 2) rfl)))
  have q34 := ((G14_1.other W29 (Or.inl ne_a_co)).other W32 (Or.inl ne_a_ch))
  have q35 := ((G14_2.other W29 (Or.inl ne_a_co)).other W32 (Or.inl ne_a_ch))
  have q36 := ((G14_3.other W29 (Or.inl ne_a_co)).other W32 (Or.inl ne_a_ch))
  have q37 := ((G14_4.other W29 (Or.inl ne_a_co)).other W32 (Or.inl ne_a_ch))
  have q38 := ((G14_5.other W29 (Or.inl ne_a_co)).other W32 (Or.inl ne_a_ch))
  have q39 := ((G14_6.other W29 (Or.inl ne_a_co)).other W32 (Or.inl ne_a_ch))
  have q40 := ((G14_7.other W29 (Or.inl ne_a_co)).other W32 (Or.inl ne_a_ch))
  have q41 := ((G14_8.other W29 (Or.inl ne_a_co)).other W32 (Or.inl ne_a_ch))
  have q42 := ((G14_9.other W29 (Or.inl ne_a_co)).other W32 (Or.inl ne_a_ch))
  have q43 := ((G14_10.other W29 (Or.inl ne_a_co)).other W32 (Or.inl ne_a_ch))
  have q44 := ((G14_11.other W29 (Or.inl ne_a_co)).other W32 (Or.inl ne_a_ch))
  have q45 := (((G11_0.keep K14 (ninS ne_ri_ro (ninS (Ne.symm ne_rd_ri) (ninS (Ne.symm ne_a_ri) nin0)))).other W29 (Ne.symm ne_co_ri)).other W32 (Ne.symm ne_ch_ri))
  have q46 := (((G11_1.keep K14 (ninS ne_le_ro (ninS ne_le_rd (ninS (Ne.symm ne_a_le) nin0)))).other W29 (Ne.symm ne_co_le)).other W32 (Ne.symm ne_ch_le))
  have q47 := (((((V4.keep K6 (ninS ne_pa_ri (ninS (Ne.symm ne_le_pa) nin0))).keep K11 (ninS ne_pa_ri (ninS (Ne.symm ne_le_pa) nin0))).keep K14 (ninS ne_pa_ro (ninS ne_pa_rd (ninS (Ne.symm ne_a_pa) nin0)))).other W29 (Ne.symm ne_co_pa)).other W32 (Ne.symm ne_ch_pa))
  have q48 := ((G14_12.other W29 (Ne.symm ne_co_ro)).other W32 (Ne.symm ne_ch_ro))
  have q49 := ((G14_13.other W29 (Ne.symm ne_co_rd)).other W32 (Ne.symm ne_ch_rd))
  exact ⟨rfl, N32, q33, ((G14_0.wr W29).wr W32), q34, q35, q36, q37, q38, q39, q40, q41, q42, q43, q44, q45, q46, V32, q47, (V29.other W32 (Ne.symm ne_ch_co)), q48, q49⟩
theorem ef_9_C (m : MethodId) (a : Addr) : entryFrame m #[(.ref a)] 4 = mkF m 0 #[.val (.ref a), .unset, .unset, .unset] [] := by first | (simp [entryFrame, mkF, argsToLocals, Value.category]; done) | rfl
def Q9_C (Z : State) (a : Addr) (ky : Addr) (pa : Addr) (ch : Addr) (le : Addr) (ri : Addr) (de : Addr) (mk : Addr) (co : Addr) (ro : Addr) (rd : Addr) (kri : ClassId) (kle : ClassId) (kch : ClassId) (kpa : ClassId) (kco : ClassId) (kde : ClassId) (kmk : ClassId) (kro : ClassId) (krd : ClassId) (kky : ClassId) (RI : Nat → Int) (LE : Nat → Int) (CH : Nat → Int) (PA : Nat → Int) (CO : Nat → Int) (DE : Nat → Int) (MK : Nat → Int) (RO : Nat → Int) (RD : Nat → Int) (kf : Nat → UInt64) (x1 : Nat) (x2 : Nat) (x3 : Nat) (K : Nat → Int) (h0 : Heap) (n0 : Nat) (v9 : Option Value) (h9 : Heap) (L9 : List Loc) : Prop := ∃ (tp : Nat), ∃ (ot : Nat), v9 = some (.int (Int32.ofInt x1)) ∧ Fr n0 L9 ∧ Keep h0 h9 [ri, le, ch, pa, co, de, mk, ro, rd, a] ∧ Exa Z h9 a "com/example/hornwork/hornwork/FibonacciHeap" ∧ Fld Z h9 a "com/example/hornwork/hornwork/FibonacciHeap" "key" "[D" (.ref ky) ∧ Fld Z h9 a "com/example/hornwork/hornwork/FibonacciHeap" "parent" "[I" (.ref pa) ∧ Fld Z h9 a "com/example/hornwork/hornwork/FibonacciHeap" "child" "[I" (.ref ch) ∧ Fld Z h9 a "com/example/hornwork/hornwork/FibonacciHeap" "left" "[I" (.ref le) ∧ Fld Z h9 a "com/example/hornwork/hornwork/FibonacciHeap" "right" "[I" (.ref ri) ∧ Fld Z h9 a "com/example/hornwork/hornwork/FibonacciHeap" "degree" "[I" (.ref de) ∧ Fld Z h9 a "com/example/hornwork/hornwork/FibonacciHeap" "marked" "[Z" (.ref mk) ∧ Fld Z h9 a "com/example/hornwork/hornwork/FibonacciHeap" "contained" "[Z" (.ref co) ∧ Fld Z h9 a "com/example/hornwork/hornwork/FibonacciHeap" "roots" "[I" (.ref ro) ∧ Fld Z h9 a "com/example/hornwork/hornwork/FibonacciHeap" "rootOfDegree" "[I" (.ref rd) ∧ Fld Z h9 a "com/example/hornwork/hornwork/FibonacciHeap" "least" "I" (.int (Int32.ofInt tp)) ∧ Arv Z h9 ri kri .int (3 : Int32) (own_ar 3 (own_upd (own_upd (own_upd (own_upd RI x3 x2) x1 x1) tp tp) ot ot)) (.int (0 : Int32)) ∧ Arv Z h9 le kle .int (3 : Int32) (own_ar 3 (own_upd (own_upd (own_upd (own_upd LE x2 x3) x1 x1) tp tp) ot ot)) (.int (0 : Int32)) ∧ Arv Z h9 ch kch .int (3 : Int32) (own_ar 3 (own_upd (own_upd CH tp ot) x1 (-1))) (.int (0 : Int32)) ∧ Arv Z h9 pa kpa .int (3 : Int32) (own_ar 3 (own_upd PA ot tp)) (.int (0 : Int32)) ∧ Arv Z h9 co kco .boolean (3 : Int32) (own_ar 3 (own_upd CO x1 0)) (.int (0 : Int32)) ∧ Arv Z h9 de kde .int (3 : Int32) (own_ar 3 (own_upd DE tp 1)) (.int (0 : Int32)) ∧ Arv Z h9 mk kmk .boolean (3 : Int32) (own_ar 3 (own_upd MK ot 0)) (.int (0 : Int32)) ∧ Arv Z h9 ro kro .int (3 : Int32) (own_ar 3 (own_upd (own_upd RO 0 x2) 1 x3)) (.int (0 : Int32)) ∧ Arv Z h9 rd krd .int (64 : Int32) (own_ar 64 (own_upd (own_upd (own_upd (own_upd (own_upd RD 0 x2) 0 (-1)) 1 tp) 0 (-1)) 1 (-1))) (.int (0 : Int32)) ∧ ((x2 = tp ∧ x3 = ot ∧ own_bfr K x2 x3) ∨ (x3 = tp ∧ x2 = ot ∧ own_bfr K x3 x2))
set_option maxRecDepth 65536 in
set_option maxHeartbeats 40000000 in
theorem rm9_C (l : Launch) (Z : State) (a0 : Array Value) (hw : ∀ d ∈ tables_1, d.before a0 Z = true) (ws : List Jvm.Cond) (a : Addr) (ky : Addr) (pa : Addr) (ch : Addr) (le : Addr) (ri : Addr) (de : Addr) (mk : Addr) (co : Addr) (ro : Addr) (rd : Addr) (kri : ClassId) (kle : ClassId) (kch : ClassId) (kpa : ClassId) (kco : ClassId) (kde : ClassId) (kmk : ClassId) (kro : ClassId) (krd : ClassId) (kky : ClassId) (RI : Nat → Int) (LE : Nat → Int) (CH : Nat → Int) (PA : Nat → Int) (CO : Nat → Int) (DE : Nat → Int) (MK : Nat → Int) (RO : Nat → Int) (RD : Nat → Int) (kf : Nat → UInt64) (x1 : Nat) (x2 : Nat) (x3 : Nat) (K : Nat → Int) (h0 : Heap) (n0 : Nat) (Z0 : n0 ≤ h0.size) (Exa_0 : Exa Z h0 a "com/example/hornwork/hornwork/FibonacciHeap") (Fld_1 : Fld Z h0 a "com/example/hornwork/hornwork/FibonacciHeap" "key" "[D" (.ref ky)) (Fld_2 : Fld Z h0 a "com/example/hornwork/hornwork/FibonacciHeap" "parent" "[I" (.ref pa)) (Fld_3 : Fld Z h0 a "com/example/hornwork/hornwork/FibonacciHeap" "child" "[I" (.ref ch)) (Fld_4 : Fld Z h0 a "com/example/hornwork/hornwork/FibonacciHeap" "left" "[I" (.ref le)) (Fld_5 : Fld Z h0 a "com/example/hornwork/hornwork/FibonacciHeap" "right" "[I" (.ref ri)) (Fld_6 : Fld Z h0 a "com/example/hornwork/hornwork/FibonacciHeap" "degree" "[I" (.ref de)) (Fld_7 : Fld Z h0 a "com/example/hornwork/hornwork/FibonacciHeap" "marked" "[Z" (.ref mk)) (Fld_8 : Fld Z h0 a "com/example/hornwork/hornwork/FibonacciHeap" "contained" "[Z" (.ref co)) (Fld_9 : Fld Z h0 a "com/example/hornwork/hornwork/FibonacciHeap" "roots" "[I" (.ref ro)) (Fld_10 : Fld Z h0 a "com/example/hornwork/hornwork/FibonacciHeap" "rootOfDegree" "[I" (.ref rd)) (Fld_11 : Fld Z h0 a "com/example/hornwork/hornwork/FibonacciHeap" "least" "I" (.int (Int32.ofInt x1))) (Arv_12 : Arv Z h0 ri kri .int (3 : Int32) (own_ar 3 RI) (.int (0 : Int32))) (Arv_13 : Arv Z h0 le kle .int (3 : Int32) (own_ar 3 LE) (.int (0 : Int32))) (Arv_14 : Arv Z h0 ch kch .int (3 : Int32) (own_ar 3 CH) (.int (0 : Int32))) (Arv_15 : Arv Z h0 pa kpa .int (3 : Int32) (own_ar 3 PA) (.int (0 : Int32))) (Arv_16 : Arv Z h0 co kco .boolean (3 : Int32) (own_ar 3 CO) (.int (0 : Int32))) (Arv_17 : Arv Z h0 de kde .int (3 : Int32) (own_ar 3 DE) (.int (0 : Int32))) (Arv_18 : Arv Z h0 mk kmk .boolean (3 : Int32) (own_ar 3 MK) (.int (0 : Int32))) (Arv_19 : Arv Z h0 ro kro .int (3 : Int32) (own_ar 3 RO) (.int (0 : Int32))) (Arv_20 : Arv Z h0 rd krd .int (64 : Int32) (own_ar 64 RD) (.int (0 : Int32))) (Arv_21 : Arv Z h0 ky kky .double (3 : Int32) (own_dr 3 kf) (.double (0 : UInt64))) (ge_22 : n0 ≤ a) (ge_23 : n0 ≤ ri) (ge_24 : n0 ≤ le) (ge_25 : n0 ≤ ch) (ge_26 : n0 ≤ pa) (ge_27 : n0 ≤ co) (ge_28 : n0 ≤ de) (ge_29 : n0 ≤ mk) (ge_30 : n0 ≤ ro) (ge_31 : n0 ≤ rd) (h_x1 : (x1 < 3)) (h_x2 : (x2 < 3)) (h_x3 : (x3 < 3)) (hd12 : (x1 ≠ x2)) (hd13 : (x1 ≠ x3)) (hd23 : (x2 ≠ x3)) (hK : (∀ i, i < 3 → FP.Core.DInt (K i) (kf i))) (eC1 : (CH x1 = (-1))) (eC2 : (CH x2 = (-1))) (eC3 : (CH x3 = (-1))) (eR1 : (RI x1 = x2)) (eR2 : (RI x2 = x3)) (eL1 : (LE x1 = x3)) (eL3 : (LE x3 = x2)) (eD2 : (DE x2 = 0)) (eD3 : (DE x3 = 0)) (eZ0 : (RD 0 = (-1))) (eZ1 : (RD 1 = (-1))) (ne_a_ri : a ≠ ri) (ne_le_ri : le ≠ ri) (ne_a_le : a ≠ le) (ne_ch_le : ch ≠ le) (ne_ch_ri : ch ≠ ri) (ne_le_pa : le ≠ pa) (ne_pa_ri : pa ≠ ri) (ne_de_le : de ≠ le) (ne_de_ri : de ≠ ri) (ne_le_mk : le ≠ mk) (ne_mk_ri : mk ≠ ri) (ne_le_ro : le ≠ ro) (ne_ri_ro : ri ≠ ro) (ne_le_rd : le ≠ rd) (ne_rd_ri : rd ≠ ri) (ne_ky_le : ky ≠ le) (ne_ky_ri : ky ≠ ri) (ne_a_ro : a ≠ ro) (ne_de_ro : de ≠ ro) (ne_rd_ro : rd ≠ ro) (ne_a_rd : a ≠ rd) (ne_de_rd : de ≠ rd) (ne_ky_ro : ky ≠ ro) (ne_ky_rd : ky ≠ rd) (ne_ch_ro : ch ≠ ro) (ne_ch_rd : ch ≠ rd) (ne_pa_ro : pa ≠ ro) (ne_pa_rd : pa ≠ rd) (ne_mk_ro : mk ≠ ro) (ne_mk_rd : mk ≠ rd) (ne_a_ch : a ≠ ch) (ne_ch_pa : ch ≠ pa) (ne_a_pa : a ≠ pa) (ne_ch_de : ch ≠ de) (ne_de_pa : de ≠ pa) (ne_a_de : a ≠ de) (ne_ch_mk : ch ≠ mk) (ne_mk_pa : mk ≠ pa) (ne_de_mk : de ≠ mk) (ne_a_mk : a ≠ mk) (ne_co_le : co ≠ le) (ne_co_ri : co ≠ ri) (ne_a_co : a ≠ co) (ne_co_rd : co ≠ rd) (ne_co_ro : co ≠ ro) (ne_co_mk : co ≠ mk) (ne_co_de : co ≠ de) (ne_co_pa : co ≠ pa) (ne_ch_co : ch ≠ co) :
    MetFree l (⟨"com/example/hornwork/hornwork/FibonacciHeap", "removeLeast", "()I"⟩ : MethodName) (head1 (Jvm.Cond.code (⟨"com/example/hornwork/hornwork/FibonacciHeap", "removeLeast", "()I"⟩ : MethodName) prog_25_method_7_code 4 (some .int) :: ws) ({ frames := 3, cells := 0, slots := 0, locals := 48 } : Room)) (fun A9 U9 => A9 = #[(.ref a)] ∧ Z.Warmed39 U9.vm ∧ U9.heap = h0) (fun _ _ _ _ _ => True) (fun _ U9 o9 V9 => ∃ v9 L9, o9 = .returned v9 ∧ (Q9_C Z a ky pa ch le ri de mk co ro rd kri kle kch kpa kco kde kmk kro krd kky RI LE CH PA CO DE MK RO RD kf x1 x2 x3 K h0 n0) v9 V9.heap L9 ∧ FrameEnd U9 o9 V9 L9 ({ frames := 3, cells := 0, slots := 0, locals := 48 } : Room).cells ({ frames := 3, cells := 0, slots := 0, locals := 48 } : Room).slots) := by
  refine met_of (Q := (Q9_C Z a ky pa ch le ri de mk co ro rd kri kle kch kpa kco kde kmk kro krd kky RI LE CH PA CO DE MK RO RD kf x1 x2 x3 K h0 n0)) pn_9 ?_
  intro p e s m below meth c T0 C X0 e0
  have N0 := Fr.nil n0
  refine Go.cast (ef_9_C m a) ?_
  refine waloadN C X0 f9_0 rfl rfl ?_
  refine wget C X0 (host := "") (Or.inl (tw_13 hw)) Via.refl e0 Fld_11 f9_1 ?_
  intro T1 X1 e1
  refine wistoreN C X1 f9_4 #[.val (.ref a), .val (.int (Int32.ofInt x1)), .unset, .unset] rfl ?_
  refine waloadN C X1 f9_5 rfl rfl ?_
  refine wget C X1 (host := "") (Or.inl (tw_20 hw)) Via.refl e1 Fld_3 f9_6 ?_
  intro T2 X2 e2
  refine wiloadN C X2 f9_9 rfl ?_
  refine wiaload C X2 e2 Arv_14 f9_10 (own_fx _ (by omega)) (i := x1) (own_fc _ (by omega)) (v := (-1 : Int32)) (own_vi (own_ar_at (by omega) (eC1)) (by decide)) ?_
  refine wistoreN C X2 f9_11 #[.val (.ref a), .val (.int (Int32.ofInt x1)), .val (.int (-1 : Int32)), .unset] rfl ?_
  refine wiloadN C X2 f9_12 rfl ?_
  refine wiconst C X2 f9_13 (-1 : Int32) rfl ?_
  refine wicmp_eq C X2 f9_14 ?_ (fun q => absurd (by decide : ((-1 : Int32) = (-1 : Int32))) q)
  intro _
  refine waloadN C X2 f9_44 rfl rfl ?_
  refine wget C X2 (host := "") (Or.inl (tw_24 hw)) Via.refl e2 Fld_5 f9_45 ?_
  intro T3 X3 e3
  refine wiloadN C X3 f9_48 rfl ?_
  refine wiaload C X3 e3 Arv_12 f9_49 (own_fx _ (by omega)) (i := x1) (own_fc _ (by omega)) (v := (Int32.ofInt x2)) (own_ar_at (by omega) (eR1)) ?_
  refine wiloadN C X3 f9_50 rfl ?_
  refine wicmp_ne C X3 f9_51 (fun q => absurd q (own_fe _ (by omega) _ (by omega) (by omega))) ?_
  intro _
  refine waloadN C X3 f9_62 rfl rfl ?_
  refine wget C X3 (host := "") (Or.inl (tw_24 hw)) Via.refl e3 Fld_5 f9_63 ?_
  intro T4 X4 e4
  refine wiloadN C X4 f9_66 rfl ?_
  refine wiaload C X4 e4 Arv_12 f9_67 (own_fx _ (by omega)) (i := x1) (own_fc _ (by omega)) (v := (Int32.ofInt x2)) (own_ar_at (by omega) (eR1)) ?_
  refine wistoreN C X4 f9_68 #[.val (.ref a), .val (.int (Int32.ofInt x1)), .val (.int (-1 : Int32)), .val (.int (Int32.ofInt x2))] rfl ?_
  refine waloadN C X4 f9_69 rfl rfl ?_
  refine wiloadN C X4 f9_70 rfl ?_
  refine wprivateI C X4 (y := (⟨"com/example/hornwork/hornwork/FibonacciHeap", "unlink", "(I)V"⟩ : MethodName)) (tw_66 hw) (tw_67 hw) (tw_2 hw) (tw_68 hw) (tw_69 hw) (tw_3 hw) (by decide) (rm10 l Z a0 hw [] a x1 ri le kri kle RI LE x2 x3 h0 n0 Z0 Exa_0 Fld_5 Fld_4 Arv_12 Arv_13 ge_23 ge_24 (by omega) (by omega) (by omega) (by omega) (eR1) (eL1) ne_a_ri ne_le_ri ne_a_le) e4 (a := a) Exa_0 f9_71 (argsL := [(.int (Int32.ofInt x1))]) (rest := []) rfl rfl (lenOf pd_0 rfl) rfl (W := 0) (Nat.le_of_eq rfl) (by decide) (by decide) (by decide) (by decide) ?_
  intro v5 T5 L5 X5 q5
  obtain ⟨rfl, Nq5, K5, G5_0, G5_1⟩ := q5
  have N5 := Fr.app N0 Nq5
  show Go p e below s _ _ _ T5 (mkF m 74 #[.val (.ref a), .val (.int (Int32.ofInt x1)), .val (.int (-1 : Int32)), .val (.int (Int32.ofInt x2))] [])
  refine waloadN C X5 f9_74 rfl rfl ?_
  refine wiloadN C X5 f9_75 rfl ?_
  have q7 := (Arv_15.keep K5 (ninS ne_pa_ri (ninS (Ne.symm ne_le_pa) nin0)))
  have q8 := (Arv_18.keep K5 (ninS ne_mk_ri (ninS (Ne.symm ne_le_mk) nin0)))
  have q9 := (Arv_19.keep K5 (ninS (Ne.symm ne_ri_ro) (ninS (Ne.symm ne_le_ro) nin0)))
  have q10 := (Arv_20.keep K5 (ninS ne_rd_ri (ninS (Ne.symm ne_le_rd) nin0)))
  refine wprivateI C X5 (y := (⟨"com/example/hornwork/hornwork/FibonacciHeap", "consolidate", "(I)V"⟩ : MethodName)) (tw_70 hw) (tw_71 hw) (tw_2 hw) (tw_72 hw) (tw_73 hw) (tw_3 hw) (by decide) (rm11_2 l Z a0 hw [] a x2 ky pa ch le ri de mk co ro rd kri kle kch kpa kde kmk kro krd kky (own_upd (own_upd RI x3 x2) x1 x1) (own_upd (own_upd LE x2 x3) x1 x1) CH PA DE MK RO RD kf (Int32.ofInt x1) K x3 T5.heap n0 (Nat.le_trans Z0 K5.1) (Exa_0.keep K5) (Fld_1.keep K5 (ninS ne_a_ri (ninS ne_a_le nin0))) (Fld_2.keep K5 (ninS ne_a_ri (ninS ne_a_le nin0))) (Fld_3.keep K5 (ninS ne_a_ri (ninS ne_a_le nin0))) (Fld_4.keep K5 (ninS ne_a_ri (ninS ne_a_le nin0))) (Fld_5.keep K5 (ninS ne_a_ri (ninS ne_a_le nin0))) (Fld_6.keep K5 (ninS ne_a_ri (ninS ne_a_le nin0))) (Fld_7.keep K5 (ninS ne_a_ri (ninS ne_a_le nin0))) (Fld_8.keep K5 (ninS ne_a_ri (ninS ne_a_le nin0))) (Fld_9.keep K5 (ninS ne_a_ri (ninS ne_a_le nin0))) (Fld_10.keep K5 (ninS ne_a_ri (ninS ne_a_le nin0))) (Fld_11.keep K5 (ninS ne_a_ri (ninS ne_a_le nin0))) G5_0 G5_1 (Arv_14.keep K5 (ninS ne_ch_ri (ninS ne_ch_le nin0))) q7 (Arv_17.keep K5 (ninS ne_de_ri (ninS ne_de_le nin0))) q8 q9 q10 (Arv_21.keep K5 (ninS ne_ky_ri (ninS ne_ky_le nin0))) ge_22 ge_23 ge_24 ge_25 ge_26 ge_28 ge_29 ge_30 ge_31 (by omega) (by omega) (by omega) hK ((own_un (by omega)).trans ((own_un (by omega)).trans (eR2))) ((own_un (by omega)).trans (own_us _ _ _)) ((own_un (by omega)).trans (own_us _ _ _)) ((own_un (by omega)).trans ((own_un (by omega)).trans (eL3))) (eD2) (eD3) (eC2) (eC3) (eZ0) (eZ1) ne_a_ro ne_ri_ro ne_de_ro ne_rd_ro ne_a_rd ne_de_rd ne_ky_ro ne_ky_rd ne_rd_ri ne_le_ro ne_le_rd ne_ch_ro ne_ch_rd ne_pa_ro ne_pa_rd ne_mk_ro ne_mk_rd ne_a_ri ne_le_ri ne_a_le ne_ch_le ne_ch_ri ne_a_ch ne_le_pa ne_pa_ri ne_ch_pa ne_a_pa ne_de_le ne_de_ri ne_ch_de ne_de_pa ne_a_de ne_le_mk ne_mk_ri ne_ch_mk ne_mk_pa ne_de_mk ne_a_mk) rfl (a := a) (Exa_0.keep K5) f9_76 (argsL := [(.int (Int32.ofInt x2))]) (rest := []) rfl rfl (lenOf pd_0 rfl) rfl (W := 0) (Nat.le_of_eq rfl) (by decide) (by decide) (by decide) (by decide) ?_
  intro v6 T6 L6 X6 q6
  obtain ⟨tp_6, ot_6, rfl, Nq6, K6, G6_0, G6_1, G6_2, G6_3, G6_4, G6_5, G6_6, G6_7, G6_8, G6_9, G6_10, G6_11, G6_12, G6_13, G6_14, G6_15, G6_16, G6_17, G6_18, G6_19, G6_20⟩ := q6
  have N6 := Fr.app N5 Nq6
  show Go p e below s _ _ _ T6 (mkF m 79 #[.val (.ref a), .val (.int (Int32.ofInt x1)), .val (.int (-1 : Int32)), .val (.int (Int32.ofInt x2))] [])
  refine waloadN C X6 f9_79 rfl rfl ?_
  refine wget C X6 (host := "") (Or.inl (tw_31 hw)) Via.refl rfl G6_8 f9_80 ?_
  intro T11 X11 e11
  refine wiloadN C X11 f9_83 rfl ?_
  refine wiconst C X11 f9_84 (0 : Int32) rfl ?_
  have q12 := ((Arv_16.keep K5 (ninS ne_co_ri (ninS ne_co_le nin0))).keep K6 (ninS ne_co_ri (ninS ne_co_le (ninS (Ne.symm ne_ch_co) (ninS ne_co_pa (ninS ne_co_de (ninS ne_co_mk (ninS ne_co_ro (ninS ne_co_rd (ninS (Ne.symm ne_a_co) nin0))))))))))
  refine wbastoreZ C X11 e11 q12 f9_85 (own_fx _ (by omega)) x1 (own_fc _ (by omega)) (by rw [own_ar_len]; omega) (own_ar 3 (own_upd CO x1 0)) (own_ar_set (by omega) (by decide)) ?_
  intro T13 h13 sl13 w13 X13 e13 W13 V13
  have N13 := Fr.snoc X13 N6 ge_27
  refine waloadN C X13 f9_86 rfl rfl ?_
  refine wget C X13 (host := "") (Or.inl (tw_20 hw)) Via.refl e13 (G6_3.other W13 (Or.inl ne_a_co)) f9_87 ?_
  intro T14 X14 e14
  refine wiloadN C X14 f9_90 rfl ?_
  refine wiconst C X14 f9_91 (-1 : Int32) rfl ?_
  refine wiastore C X14 e14 (G6_14.other W13 ne_ch_co) f9_92 (own_fx _ (by omega)) x1 (own_fc _ (by omega)) (by rw [own_ar_len]; omega) (own_ar 3 (own_upd (own_upd CH tp_6 ot_6) x1 (-1))) (own_ar_set (by omega) (by decide)) ?_
  intro T15 h15 sl15 w15 X15 e15 W15 V15
  have N15 := Fr.snoc X15 N13 ge_25
  refine wiloadN C X15 f9_93 rfl ?_
  refine wiret C X15 f9_94 rfl (by decide) (by decide) ?_
  rw [e15]
  have q16 := (((((Keep.refl h0 [ri, le, ch, pa, co, de, mk, ro, rd, a]).trans K5 (allS (Or.inl (List.mem_of_getElem? (i := 0) rfl)) (allS (Or.inl (List.mem_of_getElem? (i := 1) rfl)) all0))).trans K6 (allS (Or.inl (List.mem_of_getElem? (i := 0) rfl)) (allS (Or.inl (List.mem_of_getElem? (i := 1) rfl)) (allS (Or.inl (List.mem_of_getElem? (i := 2) rfl)) (allS (Or.inl (List.mem_of_getElem? (i := 3) rfl)) (allS (Or.inl (List.mem_of_getElem? (i := 5) rfl)) (allS (Or.inl (List.mem_of_getElem? (i := 6) rfl)) (allS (Or.inl (List.mem_of_getElem? (i := 7) rfl)) (allS (Or.inl (List.mem_of_getElem? (i := 8) rfl)) (allS (Or.inl (List.mem_of_getElem? (i := 9) rfl)) all0)))))))))).wr W13 (Or.inl (List.mem_of_getElem? (i := 4) rfl))).wr W15 (Or.inl (List.mem_of_getElem? (i := 2) rfl)))
  have q17 := ((G6_1.other W13 (Or.inl ne_a_co)).other W15 (Or.inl ne_a_ch))
  have q18 := ((G6_2.other W13 (Or.inl ne_a_co)).other W15 (Or.inl ne_a_ch))
  have q19 := ((G6_3.other W13 (Or.inl ne_a_co)).other W15 (Or.inl ne_a_ch))
  have q20 := ((G6_4.other W13 (Or.inl ne_a_co)).other W15 (Or.inl ne_a_ch))
  have q21 := ((G6_5.other W13 (Or.inl ne_a_co)).other W15 (Or.inl ne_a_ch))
  have q22 := ((G6_6.other W13 (Or.inl ne_a_co)).other W15 (Or.inl ne_a_ch))
  have q23 := ((G6_7.other W13 (Or.inl ne_a_co)).other W15 (Or.inl ne_a_ch))
  have q24 := ((G6_8.other W13 (Or.inl ne_a_co)).other W15 (Or.inl ne_a_ch))
  have q25 := ((G6_9.other W13 (Or.inl ne_a_co)).other W15 (Or.inl ne_a_ch))
  have q26 := ((G6_10.other W13 (Or.inl ne_a_co)).other W15 (Or.inl ne_a_ch))
  have q27 := ((G6_11.other W13 (Or.inl ne_a_co)).other W15 (Or.inl ne_a_ch))
  have q28 := ((G6_12.other W13 (Ne.symm ne_co_ri)).other W15 (Ne.symm ne_ch_ri))
  have q29 := ((G6_13.other W13 (Ne.symm ne_co_le)).other W15 (Ne.symm ne_ch_le))
  have q30 := ((G6_15.other W13 (Ne.symm ne_co_pa)).other W15 (Ne.symm ne_ch_pa))
  have q31 := ((G6_16.other W13 (Ne.symm ne_co_de)).other W15 (Ne.symm ne_ch_de))
  have q32 := ((G6_17.other W13 (Ne.symm ne_co_mk)).other W15 (Ne.symm ne_ch_mk))
  have q33 := ((G6_18.other W13 (Ne.symm ne_co_ro)).other W15 (Ne.symm ne_ch_ro))
  have q34 := ((G6_19.other W13 (Ne.symm ne_co_rd)).other W15 (Ne.symm ne_ch_rd))
  exact ⟨tp_6, ot_6, rfl, N15, q16, ((G6_0.wr W13).wr W15), q17, q18, q19, q20, q21, q22, q23, q24, q25, q26, q27, q28, q29, V15, q30, (V13.other W15 (Ne.symm ne_ch_co)), q31, q32, q33, q34, G6_20⟩
theorem f3_0 : Dec jdk_65_method_103_code 0 (.iconst 0) 1 1 := ⟨by decide +kernel, rfl⟩
theorem f3_1 : Dec jdk_65_method_103_code 1 (.istore_n 2) 1 2 := ⟨by decide +kernel, rfl⟩
theorem f3_2 : Dec jdk_65_method_103_code 2 (.aload_n 0) 1 3 := ⟨by decide +kernel, rfl⟩
theorem f3_3 : Dec jdk_65_method_103_code 3 (.arraylength) 1 4 := ⟨by decide +kernel, rfl⟩
theorem f3_4 : Dec jdk_65_method_103_code 4 (.istore_n 3) 1 5 := ⟨by decide +kernel, rfl⟩
theorem f3_5 : Dec jdk_65_method_103_code 5 (.iload_n 2) 1 6 := ⟨by decide +kernel, rfl⟩
theorem f3_6 : Dec jdk_65_method_103_code 6 (.iload_n 3) 1 7 := ⟨by decide +kernel, rfl⟩
theorem f3_7 : DecJ jdk_65_method_103_code 7 (.if_icmp .ge 13) 13 20 10 := ⟨by decide +kernel, by decide, by decide, rfl⟩
theorem f3_10 : Dec jdk_65_method_103_code 10 (.aload_n 0) 1 11 := ⟨by decide +kernel, rfl⟩
theorem f3_11 : Dec jdk_65_method_103_code 11 (.iload_n 2) 1 12 := ⟨by decide +kernel, rfl⟩
theorem f3_12 : Dec jdk_65_method_103_code 12 (.iload_n 1) 1 13 := ⟨by decide +kernel, rfl⟩
theorem f3_13 : Dec jdk_65_method_103_code 13 (.iastore) 1 14 := ⟨by decide +kernel, rfl⟩
theorem f3_14 : Dec jdk_65_method_103_code 14 (.iinc 2 1) 3 17 := ⟨by decide +kernel, rfl⟩
theorem f3_17 : DecJ jdk_65_method_103_code 17 (.goto (-12)) (-12) 5 20 := ⟨by decide +kernel, by decide, by decide, rfl⟩
theorem f3_20 : Dec jdk_65_method_103_code 20 (.return_) 1 21 := ⟨by decide +kernel, rfl⟩
theorem own_qx : ∀ i : Nat, i < 64 → ¬ Int32.ofInt (i : Int) < 0 ∧ Int32.ofInt (i : Int) < (64 : Int32) := by decide
theorem own_qc : ∀ i : Nat, i < 64 → (Int32.ofInt (i : Int)).toNatClampNeg = i := by decide
theorem own_q1 : ∀ i : Nat, i < 64 → Int32.ofInt (i : Int) + (1 : Int32) = Int32.ofInt ((i + 1 : Nat) : Int) := by decide
def own_QF (Z : State) (rd : Addr) (krd : ClassId) (h0 : Heap) (n0 : Nat) (v9 : Option Value) (h9 : Heap) (L9 : List Loc) : Prop := v9 = none ∧ Fr n0 L9 ∧ Keep h0 h9 [rd] ∧ ∃ f : Nat → Int, Arv Z h9 rd krd .int (64 : Int32) (own_ar 64 f) (.int (0 : Int32)) ∧ ∀ j, j < 64 → f j = -1
set_option maxRecDepth 65536 in
set_option maxHeartbeats 40000000 in
theorem own_fill {p : Program} {l : Launch} {e : Env} {R : Room} {s : State} {m : MethodId} {args : Array Value} {below : List Frame} {meth : Method} {c : Code} {Z : State} (C : Cur p l e s m meth c Z jdk_65_method_103_code 4 "java/util/Arrays" "fill" none) {rd : Addr} {krd : ClassId} {h0 : Heap} {n0 : Nat} (gr : n0 ≤ rd) {kC kS : Nat} :
    ∀ (k : Nat) {T0 : State} {locs : List Loc} {cells slots : Nat} {h : Heap} {i : Nat} {f : Nat → Int}, Stand p l e R s m args below meth c T0 locs cells slots → cells ≤ kC → slots ≤ kS → T0.heap = h → Fr n0 locs → Keep h0 h [rd] → Arv Z h rd krd .int (64 : Int32) (own_ar 64 f) (.int (0 : Int32)) → i + k = 64 → (∀ j, j < i → f j = -1) →
      Go p e below s (own_QF Z rd krd h0 n0) kC kS T0 (mkF m 5 #[.val (.ref rd), .val (.int (-1 : Int32)), .val (.int (Int32.ofInt (i : Int))), .val (.int (64 : Int32))] []) := by
  intro k
  induction k with
  | zero =>
    intro T0 locs cells slots h i f X0 hkC hkS e0 N0 K0 V hi hf
    have hi' : i = 64 := by omega
    subst hi'
    refine wiloadN C X0 f3_5 rfl ?_
    refine wiloadN C X0 f3_6 rfl ?_
    refine wicmp_ge C X0 f3_7 (fun q => absurd q (by decide)) ?_
    intro _
    refine wret C X0 f3_20 rfl hkC hkS ?_
    rw [e0]
    exact ⟨rfl, N0, K0, f, V, hf⟩
  | succ k IH =>
    intro T0 locs cells slots h i f X0 hkC hkS e0 N0 K0 V hi hf
    refine wiloadN C X0 f3_5 rfl ?_
    refine wiloadN C X0 f3_6 rfl ?_
    refine wicmp_ge C X0 f3_7 ?_ (fun q => absurd (own_qx i (by omega)).2 q)
    intro _
    refine waloadN C X0 f3_10 rfl rfl ?_
    refine wiloadN C X0 f3_11 rfl ?_
    refine wiloadN C X0 f3_12 rfl ?_
    refine wiastore C X0 e0 V f3_13 (own_qx i (by omega)) i (own_qc i (by omega)) (by rw [own_ar_len]; omega) (own_ar 64 (own_upd f i (-1))) (own_ar_set (by omega) (by decide)) ?_
    intro T1 h1 sl1 w1 X1 e1 W1 V1
    refine wiinc C X1 f3_14 (Int32.ofInt ((i + 1 : Nat) : Int)) (own_q1 i (by omega)) rfl #[.val (.ref rd), .val (.int (-1 : Int32)), .val (.int (Int32.ofInt ((i + 1 : Nat) : Int))), .val (.int (64 : Int32))] rfl ?_
    refine wgoto C X1 f3_17 ?_
    refine IH X1 hkC hkS e1 (Fr.snoc X1 N0 gr) (K0.wr W1 (Or.inl (List.mem_of_getElem? (i := 0) rfl))) V1 (by omega) ?_
    intro j hj
    by_cases q : j = i
    · subst q; exact own_us _ _ _
    · rw [own_un q]; exact hf j (by omega)
theorem pn_3 : plainFor (⟨"java/util/Arrays", "fill", "([II)V"⟩ : MethodName) = true := plainFor_of_name (show plainName "java/util/Arrays" = true by first | (simp [plainName, overriddenIn]; done) | decide +kernel)
theorem ef_3 (m : MethodId) (rd : Addr) (vv : Int32) : entryFrame m #[(.ref rd), (.int vv)] 4 = mkF m 0 #[.val (.ref rd), .val (.int vv), .unset, .unset] [] := by first | (simp [entryFrame, mkF, argsToLocals, Value.category]; done) | rfl
def Q3 (Z : State) (rd : Addr) (vv : Int32) (krd : ClassId) (f0 : Nat → Int) (h0 : Heap) (n0 : Nat) (v9 : Option Value) (h9 : Heap) (L9 : List Loc) : Prop := ∃ (f : Nat → Int), v9 = none ∧ Fr n0 L9 ∧ Keep h0 h9 [rd] ∧ Arv Z h9 rd krd .int (64 : Int32) (own_ar 64 f) (.int (0 : Int32)) ∧ (∀ j, j < 64 → f j = -1)
set_option maxRecDepth 65536 in
set_option maxHeartbeats 40000000 in
theorem rm3 (l : Launch) (Z : State) (a0 : Array Value) (hw : ∀ d ∈ tables_1, d.before a0 Z = true) (ws : List Jvm.Cond) (rd : Addr) (vv : Int32) (krd : ClassId) (f0 : Nat → Int) (h0 : Heap) (n0 : Nat) (Z0 : n0 ≤ h0.size) (Arv_0 : Arv Z h0 rd krd .int (64 : Int32) (own_ar 64 f0) (.int (0 : Int32))) (ge_1 : n0 ≤ rd) (hv : (vv = (-1 : Int32))) :
    MetFree l (⟨"java/util/Arrays", "fill", "([II)V"⟩ : MethodName) (head1 (Jvm.Cond.code (⟨"java/util/Arrays", "fill", "([II)V"⟩ : MethodName) jdk_65_method_103_code 4 none :: ws) ({ frames := 0, cells := 0, slots := 0, locals := 0 } : Room)) (fun A9 U9 => A9 = #[(.ref rd), (.int vv)] ∧ Z.Warmed39 U9.vm ∧ U9.heap = h0) (fun _ _ _ _ _ => True) (fun _ U9 o9 V9 => ∃ v9 L9, o9 = .returned v9 ∧ (Q3 Z rd vv krd f0 h0 n0) v9 V9.heap L9 ∧ FrameEnd U9 o9 V9 L9 ({ frames := 0, cells := 0, slots := 0, locals := 0 } : Room).cells ({ frames := 0, cells := 0, slots := 0, locals := 0 } : Room).slots) := by
  refine met_of (Q := (Q3 Z rd vv krd f0 h0 n0)) pn_3 ?_
  intro p e s m below meth c T0 C X0 e0
  have N0 := Fr.nil n0
  refine Go.cast (ef_3 m rd vv) ?_
  subst hv
  refine wiconst C X0 f3_0 (0 : Int32) rfl ?_
  refine wistoreN C X0 f3_1 #[.val (.ref rd), .val (.int (-1 : Int32)), .val (.int (0 : Int32)), .unset] rfl ?_
  refine waloadN C X0 f3_2 rfl rfl ?_
  refine walen C X0 e0 Arv_0 f3_3 ?_
  refine wistoreN C X0 f3_4 #[.val (.ref rd), .val (.int (-1 : Int32)), .val (.int (0 : Int32)), .val (.int (64 : Int32))] rfl ?_
  refine Go.mono (own_fill C ge_1 64 (i := 0) X0 (by decide) (by decide) e0 N0 (Keep.refl h0 [rd]) Arv_0 rfl (fun j hj => absurd hj (by omega))) ?_
  intro v9 h9 L9 q9
  obtain ⟨r1, r2, r3, f, r4, r5⟩ := q9
  exact ⟨f, r1, r2, r3, r4, r5⟩
theorem own_pad0 (n : Nat) : ∀ i, (own_ar n (fun _ => 0)).getD i (.int (0 : Int32)) = ([] : List Value).getD i (.int (0 : Int32)) := by
  intro i
  by_cases h : i < n
  · rw [own_ar_at h rfl]; rfl
  · simp [own_ar, h]
theorem own_padD (n : Nat) : ∀ i, (own_dr n (fun _ => 0)).getD i (.double (0 : UInt64)) = ([] : List Value).getD i (.double (0 : UInt64)) := by
  intro i
  by_cases h : i < n
  · rw [own_dr_at h rfl]; rfl
  · simp [own_dr, h]
theorem f1_0 : Dec prog_25_method_1_code 0 (.aload_n 0) 1 1 := ⟨by decide +kernel, rfl⟩
theorem f1_1 : Dec prog_25_method_1_code 1 (.invokespecial 1) 3 4 := ⟨by decide +kernel, rfl⟩
theorem f1_4 : Dec prog_25_method_1_code 4 (.aload_n 0) 1 5 := ⟨by decide +kernel, rfl⟩
theorem f1_5 : Dec prog_25_method_1_code 5 (.bipush 64) 2 7 := ⟨by decide +kernel, rfl⟩
theorem f1_7 : Dec prog_25_method_1_code 7 (.newarray .int) 2 9 := ⟨by decide +kernel, rfl⟩
theorem f1_9 : Dec prog_25_method_1_code 9 (.putfield 9) 3 12 := ⟨by decide +kernel, rfl⟩
theorem f1_12 : Dec prog_25_method_1_code 12 (.aload_n 0) 1 13 := ⟨by decide +kernel, rfl⟩
theorem f1_13 : Dec prog_25_method_1_code 13 (.iconst (-1)) 1 14 := ⟨by decide +kernel, rfl⟩
theorem f1_14 : Dec prog_25_method_1_code 14 (.putfield 13) 3 17 := ⟨by decide +kernel, rfl⟩
theorem f1_17 : Dec prog_25_method_1_code 17 (.aload_n 0) 1 18 := ⟨by decide +kernel, rfl⟩
theorem f1_18 : Dec prog_25_method_1_code 18 (.iload_n 1) 1 19 := ⟨by decide +kernel, rfl⟩
theorem f1_19 : Dec prog_25_method_1_code 19 (.newarray .double) 2 21 := ⟨by decide +kernel, rfl⟩
theorem f1_21 : Dec prog_25_method_1_code 21 (.putfield 17) 3 24 := ⟨by decide +kernel, rfl⟩
theorem f1_24 : Dec prog_25_method_1_code 24 (.aload_n 0) 1 25 := ⟨by decide +kernel, rfl⟩
theorem f1_25 : Dec prog_25_method_1_code 25 (.iload_n 1) 1 26 := ⟨by decide +kernel, rfl⟩
theorem f1_26 : Dec prog_25_method_1_code 26 (.newarray .int) 2 28 := ⟨by decide +kernel, rfl⟩
theorem f1_28 : Dec prog_25_method_1_code 28 (.putfield 21) 3 31 := ⟨by decide +kernel, rfl⟩
theorem f1_31 : Dec prog_25_method_1_code 31 (.aload_n 0) 1 32 := ⟨by decide +kernel, rfl⟩
theorem f1_32 : Dec prog_25_method_1_code 32 (.iload_n 1) 1 33 := ⟨by decide +kernel, rfl⟩
theorem f1_33 : Dec prog_25_method_1_code 33 (.newarray .int) 2 35 := ⟨by decide +kernel, rfl⟩
theorem f1_35 : Dec prog_25_method_1_code 35 (.putfield 24) 3 38 := ⟨by decide +kernel, rfl⟩
theorem f1_38 : Dec prog_25_method_1_code 38 (.aload_n 0) 1 39 := ⟨by decide +kernel, rfl⟩
theorem f1_39 : Dec prog_25_method_1_code 39 (.iload_n 1) 1 40 := ⟨by decide +kernel, rfl⟩
theorem f1_40 : Dec prog_25_method_1_code 40 (.newarray .int) 2 42 := ⟨by decide +kernel, rfl⟩
theorem f1_42 : Dec prog_25_method_1_code 42 (.putfield 27) 3 45 := ⟨by decide +kernel, rfl⟩
theorem f1_45 : Dec prog_25_method_1_code 45 (.aload_n 0) 1 46 := ⟨by decide +kernel, rfl⟩
theorem f1_46 : Dec prog_25_method_1_code 46 (.iload_n 1) 1 47 := ⟨by decide +kernel, rfl⟩
theorem f1_47 : Dec prog_25_method_1_code 47 (.newarray .int) 2 49 := ⟨by decide +kernel, rfl⟩
theorem f1_49 : Dec prog_25_method_1_code 49 (.putfield 30) 3 52 := ⟨by decide +kernel, rfl⟩
theorem f1_52 : Dec prog_25_method_1_code 52 (.aload_n 0) 1 53 := ⟨by decide +kernel, rfl⟩
theorem f1_53 : Dec prog_25_method_1_code 53 (.iload_n 1) 1 54 := ⟨by decide +kernel, rfl⟩
theorem f1_54 : Dec prog_25_method_1_code 54 (.newarray .int) 2 56 := ⟨by decide +kernel, rfl⟩
theorem f1_56 : Dec prog_25_method_1_code 56 (.putfield 33) 3 59 := ⟨by decide +kernel, rfl⟩
theorem f1_59 : Dec prog_25_method_1_code 59 (.aload_n 0) 1 60 := ⟨by decide +kernel, rfl⟩
theorem f1_60 : Dec prog_25_method_1_code 60 (.iload_n 1) 1 61 := ⟨by decide +kernel, rfl⟩
theorem f1_61 : Dec prog_25_method_1_code 61 (.newarray .boolean) 2 63 := ⟨by decide +kernel, rfl⟩
theorem f1_63 : Dec prog_25_method_1_code 63 (.putfield 36) 3 66 := ⟨by decide +kernel, rfl⟩
theorem f1_66 : Dec prog_25_method_1_code 66 (.aload_n 0) 1 67 := ⟨by decide +kernel, rfl⟩
theorem f1_67 : Dec prog_25_method_1_code 67 (.iload_n 1) 1 68 := ⟨by decide +kernel, rfl⟩
theorem f1_68 : Dec prog_25_method_1_code 68 (.newarray .boolean) 2 70 := ⟨by decide +kernel, rfl⟩
theorem f1_70 : Dec prog_25_method_1_code 70 (.putfield 40) 3 73 := ⟨by decide +kernel, rfl⟩
theorem f1_73 : Dec prog_25_method_1_code 73 (.aload_n 0) 1 74 := ⟨by decide +kernel, rfl⟩
theorem f1_74 : Dec prog_25_method_1_code 74 (.iload_n 1) 1 75 := ⟨by decide +kernel, rfl⟩
theorem f1_75 : Dec prog_25_method_1_code 75 (.newarray .int) 2 77 := ⟨by decide +kernel, rfl⟩
theorem f1_77 : Dec prog_25_method_1_code 77 (.putfield 43) 3 80 := ⟨by decide +kernel, rfl⟩
theorem f1_80 : Dec prog_25_method_1_code 80 (.aload_n 0) 1 81 := ⟨by decide +kernel, rfl⟩
theorem f1_81 : Dec prog_25_method_1_code 81 (.getfield 9) 3 84 := ⟨by decide +kernel, rfl⟩
theorem f1_84 : Dec prog_25_method_1_code 84 (.iconst (-1)) 1 85 := ⟨by decide +kernel, rfl⟩
theorem f1_85 : Dec prog_25_method_1_code 85 (.invokestatic 46) 3 88 := ⟨by decide +kernel, rfl⟩
theorem f1_88 : Dec prog_25_method_1_code 88 (.return_) 1 89 := ⟨by decide +kernel, rfl⟩
theorem pn_1 : plainFor (⟨"com/example/hornwork/hornwork/FibonacciHeap", "<init>", "(I)V"⟩ : MethodName) = true := plainFor_of_name (show plainName "com/example/hornwork/hornwork/FibonacciHeap" = true by first | (simp [plainName, overriddenIn]; done) | decide +kernel)
theorem ef_1 (m : MethodId) (a : Addr) (cap : Int32) : entryFrame m #[(.ref a), (.int cap)] 2 = mkF m 0 #[.val (.ref a), .val (.int cap)] [] := by first | (simp [entryFrame, mkF, argsToLocals, Value.category]; done) | rfl
def Q1 (Z : State) (a : Addr) (cap : Int32) (h0 : Heap) (n0 : Nat) (v9 : Option Value) (h9 : Heap) (L9 : List Loc) : Prop := ∃ (ky : Addr), ∃ (pa : Addr), ∃ (ch : Addr), ∃ (le : Addr), ∃ (ri : Addr), ∃ (de : Addr), ∃ (mk : Addr), ∃ (co : Addr), ∃ (ro : Addr), ∃ (rd : Addr), ∃ (kky : ClassId), ∃ (kpa : ClassId), ∃ (kch : ClassId), ∃ (kle : ClassId), ∃ (kri : ClassId), ∃ (kde : ClassId), ∃ (kmk : ClassId), ∃ (kco : ClassId), ∃ (kro : ClassId), ∃ (krd : ClassId), ∃ (RD : Nat → Int), v9 = none ∧ Fr n0 L9 ∧ Keep h0 h9 [a] ∧ h0.size ≤ ky ∧ h0.size ≤ pa ∧ h0.size ≤ ch ∧ h0.size ≤ le ∧ h0.size ≤ ri ∧ h0.size ≤ de ∧ h0.size ≤ mk ∧ h0.size ≤ co ∧ h0.size ≤ ro ∧ h0.size ≤ rd ∧ ky ≠ pa ∧ ky ≠ ch ∧ ky ≠ le ∧ ky ≠ ri ∧ ky ≠ de ∧ ky ≠ mk ∧ ky ≠ co ∧ ky ≠ ro ∧ ky ≠ rd ∧ pa ≠ ch ∧ pa ≠ le ∧ pa ≠ ri ∧ pa ≠ de ∧ pa ≠ mk ∧ pa ≠ co ∧ pa ≠ ro ∧ pa ≠ rd ∧ ch ≠ le ∧ ch ≠ ri ∧ ch ≠ de ∧ ch ≠ mk ∧ ch ≠ co ∧ ch ≠ ro ∧ ch ≠ rd ∧ le ≠ ri ∧ le ≠ de ∧ le ≠ mk ∧ le ≠ co ∧ le ≠ ro ∧ le ≠ rd ∧ ri ≠ de ∧ ri ≠ mk ∧ ri ≠ co ∧ ri ≠ ro ∧ ri ≠ rd ∧ de ≠ mk ∧ de ≠ co ∧ de ≠ ro ∧ de ≠ rd ∧ mk ≠ co ∧ mk ≠ ro ∧ mk ≠ rd ∧ co ≠ ro ∧ co ≠ rd ∧ ro ≠ rd ∧ Exa Z h9 a "com/example/hornwork/hornwork/FibonacciHeap" ∧ Fld Z h9 a "com/example/hornwork/hornwork/FibonacciHeap" "key" "[D" (.ref ky) ∧ Fld Z h9 a "com/example/hornwork/hornwork/FibonacciHeap" "parent" "[I" (.ref pa) ∧ Fld Z h9 a "com/example/hornwork/hornwork/FibonacciHeap" "child" "[I" (.ref ch) ∧ Fld Z h9 a "com/example/hornwork/hornwork/FibonacciHeap" "left" "[I" (.ref le) ∧ Fld Z h9 a "com/example/hornwork/hornwork/FibonacciHeap" "right" "[I" (.ref ri) ∧ Fld Z h9 a "com/example/hornwork/hornwork/FibonacciHeap" "degree" "[I" (.ref de) ∧ Fld Z h9 a "com/example/hornwork/hornwork/FibonacciHeap" "marked" "[Z" (.ref mk) ∧ Fld Z h9 a "com/example/hornwork/hornwork/FibonacciHeap" "contained" "[Z" (.ref co) ∧ Fld Z h9 a "com/example/hornwork/hornwork/FibonacciHeap" "roots" "[I" (.ref ro) ∧ Fld Z h9 a "com/example/hornwork/hornwork/FibonacciHeap" "rootOfDegree" "[I" (.ref rd) ∧ Fld Z h9 a "com/example/hornwork/hornwork/FibonacciHeap" "least" "I" (.int (-1 : Int32)) ∧ Arv Z h9 ky kky .double (3 : Int32) (own_dr 3 (fun _ => 0)) (.double (0 : UInt64)) ∧ Arv Z h9 pa kpa .int (3 : Int32) (own_ar 3 (fun _ => 0)) (.int (0 : Int32)) ∧ Arv Z h9 ch kch .int (3 : Int32) (own_ar 3 (fun _ => 0)) (.int (0 : Int32)) ∧ Arv Z h9 le kle .int (3 : Int32) (own_ar 3 (fun _ => 0)) (.int (0 : Int32)) ∧ Arv Z h9 ri kri .int (3 : Int32) (own_ar 3 (fun _ => 0)) (.int (0 : Int32)) ∧ Arv Z h9 de kde .int (3 : Int32) (own_ar 3 (fun _ => 0)) (.int (0 : Int32)) ∧ Arv Z h9 mk kmk .boolean (3 : Int32) (own_ar 3 (fun _ => 0)) (.int (0 : Int32)) ∧ Arv Z h9 co kco .boolean (3 : Int32) (own_ar 3 (fun _ => 0)) (.int (0 : Int32)) ∧ Arv Z h9 ro kro .int (3 : Int32) (own_ar 3 (fun _ => 0)) (.int (0 : Int32)) ∧ Arv Z h9 rd krd .int (64 : Int32) (own_ar 64 RD) (.int (0 : Int32)) ∧ (∀ j, j < 64 → RD j = -1)
set_option maxRecDepth 65536 in
set_option maxHeartbeats 40000000 in
theorem rm1 (l : Launch) (Z : State) (a0 : Array Value) (hw : ∀ d ∈ tables_1, d.before a0 Z = true) (ws : List Jvm.Cond) (a : Addr) (cap : Int32) (h0 : Heap) (n0 : Nat) (Z0 : n0 ≤ h0.size) (Exa_0 : Exa Z h0 a "com/example/hornwork/hornwork/FibonacciHeap") (Fld_1 : Fld Z h0 a "com/example/hornwork/hornwork/FibonacciHeap" "key" "[D" .null) (Fld_2 : Fld Z h0 a "com/example/hornwork/hornwork/FibonacciHeap" "parent" "[I" .null) (Fld_3 : Fld Z h0 a "com/example/hornwork/hornwork/FibonacciHeap" "child" "[I" .null) (Fld_4 : Fld Z h0 a "com/example/hornwork/hornwork/FibonacciHeap" "left" "[I" .null) (Fld_5 : Fld Z h0 a "com/example/hornwork/hornwork/FibonacciHeap" "right" "[I" .null) (Fld_6 : Fld Z h0 a "com/example/hornwork/hornwork/FibonacciHeap" "degree" "[I" .null) (Fld_7 : Fld Z h0 a "com/example/hornwork/hornwork/FibonacciHeap" "marked" "[Z" .null) (Fld_8 : Fld Z h0 a "com/example/hornwork/hornwork/FibonacciHeap" "contained" "[Z" .null) (Fld_9 : Fld Z h0 a "com/example/hornwork/hornwork/FibonacciHeap" "roots" "[I" .null) (Fld_10 : Fld Z h0 a "com/example/hornwork/hornwork/FibonacciHeap" "rootOfDegree" "[I" .null) (Fld_11 : Fld Z h0 a "com/example/hornwork/hornwork/FibonacciHeap" "least" "I" (.int (0 : Int32))) (ge_12 : n0 ≤ a) (hcap : (cap = (3 : Int32))) :
    MetFree l (⟨"com/example/hornwork/hornwork/FibonacciHeap", "<init>", "(I)V"⟩ : MethodName) (head1 (Jvm.Cond.code (⟨"com/example/hornwork/hornwork/FibonacciHeap", "<init>", "(I)V"⟩ : MethodName) prog_25_method_1_code 2 none :: ws) ({ frames := 1, cells := 10, slots := 91, locals := 15 } : Room)) (fun A9 U9 => A9 = #[(.ref a), (.int cap)] ∧ Z.Warmed39 U9.vm ∧ U9.heap = h0) (fun _ _ _ _ _ => True) (fun _ U9 o9 V9 => ∃ v9 L9, o9 = .returned v9 ∧ (Q1 Z a cap h0 n0) v9 V9.heap L9 ∧ FrameEnd U9 o9 V9 L9 ({ frames := 1, cells := 10, slots := 91, locals := 15 } : Room).cells ({ frames := 1, cells := 10, slots := 91, locals := 15 } : Room).slots) := by
  refine met_of (Q := (Q1 Z a cap h0 n0)) pn_1 ?_
  intro p e s m below meth c T0 C X0 e0
  have N0 := Fr.nil n0
  refine Go.cast (ef_1 m a cap) ?_
  subst hcap
  refine waloadN C X0 f1_0 rfl rfl ?_
  refine winitO C X0 (tw_7 hw) (tw_8 hw) (tw_9 hw) e0 f1_1 rfl (by decide) (W := 0) (Nat.le_of_eq rfl) (by decide) ?_
  intro T1 X1 e1
  refine waloadN C X1 f1_4 rfl rfl ?_
  refine wbipush C X1 f1_5 (64 : Int32) bp_b_64 ?_
  refine wnewarr C X1 (aty := .int) (tw_10 hw) e1 f1_7 (by decide) (cap := 64) (by decide) (by decide) (by decide) (by decide) ?_
  intro T2 h2 b2 k2 g2 X2 e2 E2 V2
  have sz2 : h0.size ≤ b2 := Nat.le_trans (Nat.le_refl h0.size) (Nat.le_of_eq g2.symm)
  have Vp2 : Arv Z h2 b2 k2 .int (64 : Int32) (own_ar 64 (fun _ => 0)) (.int (0 : Int32)) := Arv.pad V2 (own_pad0 64)
  refine wput C X2 (host := "") (Or.inl (tw_11 hw)) Via.refl e2 (Fld_10.ext E2) (Exa_0.ext E2) (Or.inr ⟨(tw_12 hw), rfl, rfl⟩) (tw_2 hw) (ty := (.array .int)) (by decide) rfl rfl f1_9 ?_
  intro T3 h3 X3 e3 W3
  have Fw3 := (Fld_10.ext E2).same W3
  have N3 := Fr.snoc X3 N0 ge_12
  refine waloadN C X3 f1_12 rfl rfl ?_
  refine wiconst C X3 f1_13 (-1 : Int32) rfl ?_
  have q4 := ((Fld_11.ext E2).other W3 (Or.inr (slot_ne (Or.inl (tw_14 hw)) (Or.inr (tw_12 hw)) (by decide) (t := .int) (t' := (.array .int)) (by decide) (by decide))))
  refine wput C X3 (host := "") (Or.inl (tw_13 hw)) Via.refl e3 q4 ((Exa_0.ext E2).wr W3) (Or.inl (tw_14 hw)) (tw_2 hw) (ty := .int) (by decide) rfl rfl f1_14 ?_
  intro T5 h5 X5 e5 W5
  have Fw5 := q4.same W5
  have N5 := Fr.snoc X5 N3 ge_12
  refine waloadN C X5 f1_17 rfl rfl ?_
  refine wiloadN C X5 f1_18 rfl ?_
  have q7 := (Nat.le_trans (Nat.le_trans (Nat.le_trans (Nat.le_refl h0.size) E2.1) (Nat.le_of_eq W3.size.symm)) (Nat.le_of_eq W5.size.symm))
  refine wnewarr C X5 (aty := .double) (tw_15 hw) e5 f1_19 (by decide) (cap := 3) (by decide) (by decide) (by decide) (by decide) ?_
  intro T6 h6 b6 k6 g6 X6 e6 E6 V6
  have sz6 : h0.size ≤ b6 := Nat.le_trans q7 (Nat.le_of_eq g6.symm)
  have Vp6 : Arv Z h6 b6 k6 .double (3 : Int32) (own_dr 3 (fun _ => 0)) (.double (0 : UInt64)) := Arv.pad V6 (own_padD 3)
  have q8 := ((((Fld_1.ext E2).other W3 (Or.inr (slot_ne (Or.inr (tw_17 hw)) (Or.inr (tw_12 hw)) (by decide) (t := (.array .double)) (t' := (.array .int)) (by decide) (by decide)))).other W5 (Or.inr (slot_ne (Or.inr (tw_17 hw)) (Or.inl (tw_14 hw)) (by decide) (t := (.array .double)) (t' := .int) (by decide) (by decide)))).ext E6)
  refine wput C X6 (host := "") (Or.inl (tw_16 hw)) Via.refl e6 q8 ((((Exa_0.ext E2).wr W3).wr W5).ext E6) (Or.inr ⟨(tw_17 hw), rfl, rfl⟩) (tw_2 hw) (ty := (.array .double)) (by decide) rfl rfl f1_21 ?_
  intro T9 h9 X9 e9 W9
  have Fw9 := q8.same W9
  have N9 := Fr.snoc X9 N5 ge_12
  refine waloadN C X9 f1_24 rfl rfl ?_
  refine wiloadN C X9 f1_25 rfl ?_
  have q11 := (Nat.le_trans (Nat.le_trans q7 E6.1) (Nat.le_of_eq W9.size.symm))
  refine wnewarr C X9 (aty := .int) (tw_10 hw) e9 f1_26 (by decide) (cap := 3) (by decide) (by decide) (by decide) (by decide) ?_
  intro T10 h10 b10 k10 g10 X10 e10 E10 V10
  have sz10 : h0.size ≤ b10 := Nat.le_trans q11 (Nat.le_of_eq g10.symm)
  have Vp10 : Arv Z h10 b10 k10 .int (3 : Int32) (own_ar 3 (fun _ => 0)) (.int (0 : Int32)) := Arv.pad V10 (own_pad0 3)
  have q12 := ((((((Fld_2.ext E2).other W3 (Or.inr (slot_ne (Or.inr (tw_19 hw)) (Or.inr (tw_12 hw)) (by decide) (t := (.array .int)) (t' := (.array .int)) (by decide) (by decide)))).other W5 (Or.inr (slot_ne (Or.inr (tw_19 hw)) (Or.inl (tw_14 hw)) (by decide) (t := (.array .int)) (t' := .int) (by decide) (by decide)))).ext E6).other W9 (Or.inr (slot_ne (Or.inr (tw_19 hw)) (Or.inr (tw_17 hw)) (by decide) (t := (.array .int)) (t' := (.array .double)) (by decide) (by decide)))).ext E10)
  refine wput C X10 (host := "") (Or.inl (tw_18 hw)) Via.refl e10 q12 ((((((Exa_0.ext E2).wr W3).wr W5).ext E6).wr W9).ext E10) (Or.inr ⟨(tw_19 hw), rfl, rfl⟩) (tw_2 hw) (ty := (.array .int)) (by decide) rfl rfl f1_28 ?_
  intro T13 h13 X13 e13 W13
  have Fw13 := q12.same W13
  have N13 := Fr.snoc X13 N9 ge_12
  refine waloadN C X13 f1_31 rfl rfl ?_
  refine wiloadN C X13 f1_32 rfl ?_
  have q15 := (Nat.le_trans (Nat.le_trans q11 E10.1) (Nat.le_of_eq W13.size.symm))
  refine wnewarr C X13 (aty := .int) (tw_10 hw) e13 f1_33 (by decide) (cap := 3) (by decide) (by decide) (by decide) (by decide) ?_
  intro T14 h14 b14 k14 g14 X14 e14 E14 V14
  have sz14 : h0.size ≤ b14 := Nat.le_trans q15 (Nat.le_of_eq g14.symm)
  have Vp14 : Arv Z h14 b14 k14 .int (3 : Int32) (own_ar 3 (fun _ => 0)) (.int (0 : Int32)) := Arv.pad V14 (own_pad0 3)
  have q16 := ((((((((Exa_0.ext E2).wr W3).wr W5).ext E6).wr W9).ext E10).wr W13).ext E14)
  have q17 := ((((((((Fld_3.ext E2).other W3 (Or.inr (slot_ne (Or.inr (tw_21 hw)) (Or.inr (tw_12 hw)) (by decide) (t := (.array .int)) (t' := (.array .int)) (by decide) (by decide)))).other W5 (Or.inr (slot_ne (Or.inr (tw_21 hw)) (Or.inl (tw_14 hw)) (by decide) (t := (.array .int)) (t' := .int) (by decide) (by decide)))).ext E6).other W9 (Or.inr (slot_ne (Or.inr (tw_21 hw)) (Or.inr (tw_17 hw)) (by decide) (t := (.array .int)) (t' := (.array .double)) (by decide) (by decide)))).ext E10).other W13 (Or.inr (slot_ne (Or.inr (tw_21 hw)) (Or.inr (tw_19 hw)) (by decide) (t := (.array .int)) (t' := (.array .int)) (by decide) (by decide)))).ext E14)
  refine wput C X14 (host := "") (Or.inl (tw_20 hw)) Via.refl e14 q17 q16 (Or.inr ⟨(tw_21 hw), rfl, rfl⟩) (tw_2 hw) (ty := (.array .int)) (by decide) rfl rfl f1_35 ?_
  intro T18 h18 X18 e18 W18
  have Fw18 := q17.same W18
  have N18 := Fr.snoc X18 N13 ge_12
  refine waloadN C X18 f1_38 rfl rfl ?_
  refine wiloadN C X18 f1_39 rfl ?_
  have q20 := (Nat.le_trans (Nat.le_trans q15 E14.1) (Nat.le_of_eq W18.size.symm))
  refine wnewarr C X18 (aty := .int) (tw_10 hw) e18 f1_40 (by decide) (cap := 3) (by decide) (by decide) (by decide) (by decide) ?_
  intro T19 h19 b19 k19 g19 X19 e19 E19 V19
  have sz19 : h0.size ≤ b19 := Nat.le_trans q20 (Nat.le_of_eq g19.symm)
  have Vp19 : Arv Z h19 b19 k19 .int (3 : Int32) (own_ar 3 (fun _ => 0)) (.int (0 : Int32)) := Arv.pad V19 (own_pad0 3)
  have q21 := ((((((((((Fld_4.ext E2).other W3 (Or.inr (slot_ne (Or.inr (tw_23 hw)) (Or.inr (tw_12 hw)) (by decide) (t := (.array .int)) (t' := (.array .int)) (by decide) (by decide)))).other W5 (Or.inr (slot_ne (Or.inr (tw_23 hw)) (Or.inl (tw_14 hw)) (by decide) (t := (.array .int)) (t' := .int) (by decide) (by decide)))).ext E6).other W9 (Or.inr (slot_ne (Or.inr (tw_23 hw)) (Or.inr (tw_17 hw)) (by decide) (t := (.array .int)) (t' := (.array .double)) (by decide) (by decide)))).ext E10).other W13 (Or.inr (slot_ne (Or.inr (tw_23 hw)) (Or.inr (tw_19 hw)) (by decide) (t := (.array .int)) (t' := (.array .int)) (by decide) (by decide)))).ext E14).other W18 (Or.inr (slot_ne (Or.inr (tw_23 hw)) (Or.inr (tw_21 hw)) (by decide) (t := (.array .int)) (t' := (.array .int)) (by decide) (by decide)))).ext E19)
  refine wput C X19 (host := "") (Or.inl (tw_22 hw)) Via.refl e19 q21 ((q16.wr W18).ext E19) (Or.inr ⟨(tw_23 hw), rfl, rfl⟩) (tw_2 hw) (ty := (.array .int)) (by decide) rfl rfl f1_42 ?_
  intro T22 h22 X22 e22 W22
  have Fw22 := q21.same W22
  have N22 := Fr.snoc X22 N18 ge_12
  refine waloadN C X22 f1_45 rfl rfl ?_
  refine wiloadN C X22 f1_46 rfl ?_
  have q24 := (Nat.le_trans (Nat.le_trans q20 E19.1) (Nat.le_of_eq W22.size.symm))
  refine wnewarr C X22 (aty := .int) (tw_10 hw) e22 f1_47 (by decide) (cap := 3) (by decide) (by decide) (by decide) (by decide) ?_
  intro T23 h23 b23 k23 g23 X23 e23 E23 V23
  have sz23 : h0.size ≤ b23 := Nat.le_trans q24 (Nat.le_of_eq g23.symm)
  have Vp23 : Arv Z h23 b23 k23 .int (3 : Int32) (own_ar 3 (fun _ => 0)) (.int (0 : Int32)) := Arv.pad V23 (own_pad0 3)
  have q25 := ((((((((((((Fld_5.ext E2).other W3 (Or.inr (slot_ne (Or.inr (tw_25 hw)) (Or.inr (tw_12 hw)) (by decide) (t := (.array .int)) (t' := (.array .int)) (by decide) (by decide)))).other W5 (Or.inr (slot_ne (Or.inr (tw_25 hw)) (Or.inl (tw_14 hw)) (by decide) (t := (.array .int)) (t' := .int) (by decide) (by decide)))).ext E6).other W9 (Or.inr (slot_ne (Or.inr (tw_25 hw)) (Or.inr (tw_17 hw)) (by decide) (t := (.array .int)) (t' := (.array .double)) (by decide) (by decide)))).ext E10).other W13 (Or.inr (slot_ne (Or.inr (tw_25 hw)) (Or.inr (tw_19 hw)) (by decide) (t := (.array .int)) (t' := (.array .int)) (by decide) (by decide)))).ext E14).other W18 (Or.inr (slot_ne (Or.inr (tw_25 hw)) (Or.inr (tw_21 hw)) (by decide) (t := (.array .int)) (t' := (.array .int)) (by decide) (by decide)))).ext E19).other W22 (Or.inr (slot_ne (Or.inr (tw_25 hw)) (Or.inr (tw_23 hw)) (by decide) (t := (.array .int)) (t' := (.array .int)) (by decide) (by decide)))).ext E23)
  refine wput C X23 (host := "") (Or.inl (tw_24 hw)) Via.refl e23 q25 ((((q16.wr W18).ext E19).wr W22).ext E23) (Or.inr ⟨(tw_25 hw), rfl, rfl⟩) (tw_2 hw) (ty := (.array .int)) (by decide) rfl rfl f1_49 ?_
  intro T26 h26 X26 e26 W26
  have Fw26 := q25.same W26
  have N26 := Fr.snoc X26 N22 ge_12
  refine waloadN C X26 f1_52 rfl rfl ?_
  refine wiloadN C X26 f1_53 rfl ?_
  have q28 := (Nat.le_trans (Nat.le_trans q24 E23.1) (Nat.le_of_eq W26.size.symm))
  refine wnewarr C X26 (aty := .int) (tw_10 hw) e26 f1_54 (by decide) (cap := 3) (by decide) (by decide) (by decide) (by decide) ?_
  intro T27 h27 b27 k27 g27 X27 e27 E27 V27
  have sz27 : h0.size ≤ b27 := Nat.le_trans q28 (Nat.le_of_eq g27.symm)
  have Vp27 : Arv Z h27 b27 k27 .int (3 : Int32) (own_ar 3 (fun _ => 0)) (.int (0 : Int32)) := Arv.pad V27 (own_pad0 3)
  have q29 := ((((((((((((((Fld_6.ext E2).other W3 (Or.inr (slot_ne (Or.inr (tw_27 hw)) (Or.inr (tw_12 hw)) (by decide) (t := (.array .int)) (t' := (.array .int)) (by decide) (by decide)))).other W5 (Or.inr (slot_ne (Or.inr (tw_27 hw)) (Or.inl (tw_14 hw)) (by decide) (t := (.array .int)) (t' := .int) (by decide) (by decide)))).ext E6).other W9 (Or.inr (slot_ne (Or.inr (tw_27 hw)) (Or.inr (tw_17 hw)) (by decide) (t := (.array .int)) (t' := (.array .double)) (by decide) (by decide)))).ext E10).other W13 (Or.inr (slot_ne (Or.inr (tw_27 hw)) (Or.inr (tw_19 hw)) (by decide) (t := (.array .int)) (t' := (.array .int)) (by decide) (by decide)))).ext E14).other W18 (Or.inr (slot_ne (Or.inr (tw_27 hw)) (Or.inr (tw_21 hw)) (by decide) (t := (.array .int)) (t' := (.array .int)) (by decide) (by decide)))).ext E19).other W22 (Or.inr (slot_ne (Or.inr (tw_27 hw)) (Or.inr (tw_23 hw)) (by decide) (t := (.array .int)) (t' := (.array .int)) (by decide) (by decide)))).ext E23).other W26 (Or.inr (slot_ne (Or.inr (tw_27 hw)) (Or.inr (tw_25 hw)) (by decide) (t := (.array .int)) (t' := (.array .int)) (by decide) (by decide)))).ext E27)
  refine wput C X27 (host := "") (Or.inl (tw_26 hw)) Via.refl e27 q29 ((((((q16.wr W18).ext E19).wr W22).ext E23).wr W26).ext E27) (Or.inr ⟨(tw_27 hw), rfl, rfl⟩) (tw_2 hw) (ty := (.array .int)) (by decide) rfl rfl f1_56 ?_
  intro T30 h30 X30 e30 W30
  have Fw30 := q29.same W30
  have N30 := Fr.snoc X30 N26 ge_12
  refine waloadN C X30 f1_59 rfl rfl ?_
  refine wiloadN C X30 f1_60 rfl ?_
  have q32 := (Nat.le_trans (Nat.le_trans q28 E27.1) (Nat.le_of_eq W30.size.symm))
  refine wnewarr C X30 (aty := .boolean) (tw_28 hw) e30 f1_61 (by decide) (cap := 3) (by decide) (by decide) (by decide) (by decide) ?_
  intro T31 h31 b31 k31 g31 X31 e31 E31 V31
  have sz31 : h0.size ≤ b31 := Nat.le_trans q32 (Nat.le_of_eq g31.symm)
  have Vp31 : Arv Z h31 b31 k31 .boolean (3 : Int32) (own_ar 3 (fun _ => 0)) (.int (0 : Int32)) := Arv.pad V31 (own_pad0 3)
  have q33 := ((((((((q16.wr W18).ext E19).wr W22).ext E23).wr W26).ext E27).wr W30).ext E31)
  have q34 := ((((((((((((((((Fld_7.ext E2).other W3 (Or.inr (slot_ne (Or.inr (tw_30 hw)) (Or.inr (tw_12 hw)) (by decide) (t := (.array .boolean)) (t' := (.array .int)) (by decide) (by decide)))).other W5 (Or.inr (slot_ne (Or.inr (tw_30 hw)) (Or.inl (tw_14 hw)) (by decide) (t := (.array .boolean)) (t' := .int) (by decide) (by decide)))).ext E6).other W9 (Or.inr (slot_ne (Or.inr (tw_30 hw)) (Or.inr (tw_17 hw)) (by decide) (t := (.array .boolean)) (t' := (.array .double)) (by decide) (by decide)))).ext E10).other W13 (Or.inr (slot_ne (Or.inr (tw_30 hw)) (Or.inr (tw_19 hw)) (by decide) (t := (.array .boolean)) (t' := (.array .int)) (by decide) (by decide)))).ext E14).other W18 (Or.inr (slot_ne (Or.inr (tw_30 hw)) (Or.inr (tw_21 hw)) (by decide) (t := (.array .boolean)) (t' := (.array .int)) (by decide) (by decide)))).ext E19).other W22 (Or.inr (slot_ne (Or.inr (tw_30 hw)) (Or.inr (tw_23 hw)) (by decide) (t := (.array .boolean)) (t' := (.array .int)) (by decide) (by decide)))).ext E23).other W26 (Or.inr (slot_ne (Or.inr (tw_30 hw)) (Or.inr (tw_25 hw)) (by decide) (t := (.array .boolean)) (t' := (.array .int)) (by decide) (by decide)))).ext E27).other W30 (Or.inr (slot_ne (Or.inr (tw_30 hw)) (Or.inr (tw_27 hw)) (by decide) (t := (.array .boolean)) (t' := (.array .int)) (by decide) (by decide)))).ext E31)
  refine wput C X31 (host := "") (Or.inl (tw_29 hw)) Via.refl e31 q34 q33 (Or.inr ⟨(tw_30 hw), rfl, rfl⟩) (tw_2 hw) (ty := (.array .boolean)) (by decide) rfl rfl f1_63 ?_
  intro T35 h35 X35 e35 W35
  have Fw35 := q34.same W35
  have N35 := Fr.snoc X35 N30 ge_12
  refine waloadN C X35 f1_66 rfl rfl ?_
  refine wiloadN C X35 f1_67 rfl ?_
  have q37 := (Nat.le_trans (Nat.le_trans q32 E31.1) (Nat.le_of_eq W35.size.symm))
  refine wnewarr C X35 (aty := .boolean) (tw_28 hw) e35 f1_68 (by decide) (cap := 3) (by decide) (by decide) (by decide) (by decide) ?_
  intro T36 h36 b36 k36 g36 X36 e36 E36 V36
  have sz36 : h0.size ≤ b36 := Nat.le_trans q37 (Nat.le_of_eq g36.symm)
  have Vp36 : Arv Z h36 b36 k36 .boolean (3 : Int32) (own_ar 3 (fun _ => 0)) (.int (0 : Int32)) := Arv.pad V36 (own_pad0 3)
  have q38 := ((((((((((((((((((Fld_8.ext E2).other W3 (Or.inr (slot_ne (Or.inr (tw_32 hw)) (Or.inr (tw_12 hw)) (by decide) (t := (.array .boolean)) (t' := (.array .int)) (by decide) (by decide)))).other W5 (Or.inr (slot_ne (Or.inr (tw_32 hw)) (Or.inl (tw_14 hw)) (by decide) (t := (.array .boolean)) (t' := .int) (by decide) (by decide)))).ext E6).other W9 (Or.inr (slot_ne (Or.inr (tw_32 hw)) (Or.inr (tw_17 hw)) (by decide) (t := (.array .boolean)) (t' := (.array .double)) (by decide) (by decide)))).ext E10).other W13 (Or.inr (slot_ne (Or.inr (tw_32 hw)) (Or.inr (tw_19 hw)) (by decide) (t := (.array .boolean)) (t' := (.array .int)) (by decide) (by decide)))).ext E14).other W18 (Or.inr (slot_ne (Or.inr (tw_32 hw)) (Or.inr (tw_21 hw)) (by decide) (t := (.array .boolean)) (t' := (.array .int)) (by decide) (by decide)))).ext E19).other W22 (Or.inr (slot_ne (Or.inr (tw_32 hw)) (Or.inr (tw_23 hw)) (by decide) (t := (.array .boolean)) (t' := (.array .int)) (by decide) (by decide)))).ext E23).other W26 (Or.inr (slot_ne (Or.inr (tw_32 hw)) (Or.inr (tw_25 hw)) (by decide) (t := (.array .boolean)) (t' := (.array .int)) (by decide) (by decide)))).ext E27).other W30 (Or.inr (slot_ne (Or.inr (tw_32 hw)) (Or.inr (tw_27 hw)) (by decide) (t := (.array .boolean)) (t' := (.array .int)) (by decide) (by decide)))).ext E31).other W35 (Or.inr (slot_ne (Or.inr (tw_32 hw)) (Or.inr (tw_30 hw)) (by decide) (t := (.array .boolean)) (t' := (.array .boolean)) (by decide) (by decide)))).ext E36)
  refine wput C X36 (host := "") (Or.inl (tw_31 hw)) Via.refl e36 q38 ((q33.wr W35).ext E36) (Or.inr ⟨(tw_32 hw), rfl, rfl⟩) (tw_2 hw) (ty := (.array .boolean)) (by decide) rfl rfl f1_70 ?_
  intro T39 h39 X39 e39 W39
  have Fw39 := q38.same W39
  have N39 := Fr.snoc X39 N35 ge_12
  refine waloadN C X39 f1_73 rfl rfl ?_
  refine wiloadN C X39 f1_74 rfl ?_
  have q41 := (Nat.le_trans (Nat.le_trans q37 E36.1) (Nat.le_of_eq W39.size.symm))
  refine wnewarr C X39 (aty := .int) (tw_10 hw) e39 f1_75 (by decide) (cap := 3) (by decide) (by decide) (by decide) (by decide) ?_
  intro T40 h40 b40 k40 g40 X40 e40 E40 V40
  have sz40 : h0.size ≤ b40 := Nat.le_trans q41 (Nat.le_of_eq g40.symm)
  have Vp40 : Arv Z h40 b40 k40 .int (3 : Int32) (own_ar 3 (fun _ => 0)) (.int (0 : Int32)) := Arv.pad V40 (own_pad0 3)
  have q42 := ((((((((((((((((((((Fld_9.ext E2).other W3 (Or.inr (slot_ne (Or.inr (tw_34 hw)) (Or.inr (tw_12 hw)) (by decide) (t := (.array .int)) (t' := (.array .int)) (by decide) (by decide)))).other W5 (Or.inr (slot_ne (Or.inr (tw_34 hw)) (Or.inl (tw_14 hw)) (by decide) (t := (.array .int)) (t' := .int) (by decide) (by decide)))).ext E6).other W9 (Or.inr (slot_ne (Or.inr (tw_34 hw)) (Or.inr (tw_17 hw)) (by decide) (t := (.array .int)) (t' := (.array .double)) (by decide) (by decide)))).ext E10).other W13 (Or.inr (slot_ne (Or.inr (tw_34 hw)) (Or.inr (tw_19 hw)) (by decide) (t := (.array .int)) (t' := (.array .int)) (by decide) (by decide)))).ext E14).other W18 (Or.inr (slot_ne (Or.inr (tw_34 hw)) (Or.inr (tw_21 hw)) (by decide) (t := (.array .int)) (t' := (.array .int)) (by decide) (by decide)))).ext E19).other W22 (Or.inr (slot_ne (Or.inr (tw_34 hw)) (Or.inr (tw_23 hw)) (by decide) (t := (.array .int)) (t' := (.array .int)) (by decide) (by decide)))).ext E23).other W26 (Or.inr (slot_ne (Or.inr (tw_34 hw)) (Or.inr (tw_25 hw)) (by decide) (t := (.array .int)) (t' := (.array .int)) (by decide) (by decide)))).ext E27).other W30 (Or.inr (slot_ne (Or.inr (tw_34 hw)) (Or.inr (tw_27 hw)) (by decide) (t := (.array .int)) (t' := (.array .int)) (by decide) (by decide)))).ext E31).other W35 (Or.inr (slot_ne (Or.inr (tw_34 hw)) (Or.inr (tw_30 hw)) (by decide) (t := (.array .int)) (t' := (.array .boolean)) (by decide) (by decide)))).ext E36).other W39 (Or.inr (slot_ne (Or.inr (tw_34 hw)) (Or.inr (tw_32 hw)) (by decide) (t := (.array .int)) (t' := (.array .boolean)) (by decide) (by decide)))).ext E40)
  refine wput C X40 (host := "") (Or.inl (tw_33 hw)) Via.refl e40 q42 ((((q33.wr W35).ext E36).wr W39).ext E40) (Or.inr ⟨(tw_34 hw), rfl, rfl⟩) (tw_2 hw) (ty := (.array .int)) (by decide) rfl rfl f1_77 ?_
  intro T43 h43 X43 e43 W43
  have Fw43 := q42.same W43
  have N43 := Fr.snoc X43 N39 ge_12
  refine waloadN C X43 f1_80 rfl rfl ?_
  have q44 := (((((((((((((((((((Fw3.other W5 (Or.inr (slot_ne (Or.inr (tw_12 hw)) (Or.inl (tw_14 hw)) (by decide) (t := (.array .int)) (t' := .int) (by decide) (by decide)))).ext E6).other W9 (Or.inr (slot_ne (Or.inr (tw_12 hw)) (Or.inr (tw_17 hw)) (by decide) (t := (.array .int)) (t' := (.array .double)) (by decide) (by decide)))).ext E10).other W13 (Or.inr (slot_ne (Or.inr (tw_12 hw)) (Or.inr (tw_19 hw)) (by decide) (t := (.array .int)) (t' := (.array .int)) (by decide) (by decide)))).ext E14).other W18 (Or.inr (slot_ne (Or.inr (tw_12 hw)) (Or.inr (tw_21 hw)) (by decide) (t := (.array .int)) (t' := (.array .int)) (by decide) (by decide)))).ext E19).other W22 (Or.inr (slot_ne (Or.inr (tw_12 hw)) (Or.inr (tw_23 hw)) (by decide) (t := (.array .int)) (t' := (.array .int)) (by decide) (by decide)))).ext E23).other W26 (Or.inr (slot_ne (Or.inr (tw_12 hw)) (Or.inr (tw_25 hw)) (by decide) (t := (.array .int)) (t' := (.array .int)) (by decide) (by decide)))).ext E27).other W30 (Or.inr (slot_ne (Or.inr (tw_12 hw)) (Or.inr (tw_27 hw)) (by decide) (t := (.array .int)) (t' := (.array .int)) (by decide) (by decide)))).ext E31).other W35 (Or.inr (slot_ne (Or.inr (tw_12 hw)) (Or.inr (tw_30 hw)) (by decide) (t := (.array .int)) (t' := (.array .boolean)) (by decide) (by decide)))).ext E36).other W39 (Or.inr (slot_ne (Or.inr (tw_12 hw)) (Or.inr (tw_32 hw)) (by decide) (t := (.array .int)) (t' := (.array .boolean)) (by decide) (by decide)))).ext E40).other W43 (Or.inr (slot_ne (Or.inr (tw_12 hw)) (Or.inr (tw_34 hw)) (by decide) (t := (.array .int)) (t' := (.array .int)) (by decide) (by decide))))
  refine wget C X43 (host := "") (Or.inl (tw_11 hw)) Via.refl e43 q44 f1_81 ?_
  intro T45 X45 e45
  refine wiconst C X45 f1_84 (-1 : Int32) rfl ?_
  have ne47 : a ≠ b2 := (Nat.ne_of_lt (Nat.lt_of_lt_of_le Exa_0.lt (Nat.le_of_eq g2.symm)))
  have q48 := ((((((((((((((((((((Vp2.other W3 (Ne.symm ne47)).other W5 (Ne.symm ne47)).ext E6).other W9 (Ne.symm ne47)).ext E10).other W13 (Ne.symm ne47)).ext E14).other W18 (Ne.symm ne47)).ext E19).other W22 (Ne.symm ne47)).ext E23).other W26 (Ne.symm ne47)).ext E27).other W30 (Ne.symm ne47)).ext E31).other W35 (Ne.symm ne47)).ext E36).other W39 (Ne.symm ne47)).ext E40).other W43 (Ne.symm ne47))
  have q49 := (Nat.le_trans (Nat.le_trans (Nat.le_trans (Nat.le_trans (Nat.le_trans (Nat.le_trans (Nat.le_trans (Nat.le_trans (Nat.le_trans (Nat.le_trans (Nat.le_trans (Nat.le_trans (Nat.le_trans (Nat.le_trans (Nat.le_trans (Nat.le_trans (Nat.le_trans (Nat.le_trans (Nat.le_trans (Nat.le_trans (Nat.le_trans Z0 E2.1) (Nat.le_of_eq W3.size.symm)) (Nat.le_of_eq W5.size.symm)) E6.1) (Nat.le_of_eq W9.size.symm)) E10.1) (Nat.le_of_eq W13.size.symm)) E14.1) (Nat.le_of_eq W18.size.symm)) E19.1) (Nat.le_of_eq W22.size.symm)) E23.1) (Nat.le_of_eq W26.size.symm)) E27.1) (Nat.le_of_eq W30.size.symm)) E31.1) (Nat.le_of_eq W35.size.symm)) E36.1) (Nat.le_of_eq W39.size.symm)) E40.1) (Nat.le_of_eq W43.size.symm))
  refine wstatic C X45 (y := (⟨"java/util/Arrays", "fill", "([II)V"⟩ : MethodName)) (tw_35 hw) (tw_36 hw) (tw_37 hw) (tw_38 hw) (by decide) (rm3 l Z a0 hw [] b2 (-1 : Int32) k2 (fun _ => 0) h43 n0 q49 q48 (Nat.le_trans Z0 sz2) rfl) e45 f1_85 (argsL := [(.ref b2), (.int (-1 : Int32))]) (rest := []) rfl rfl (lenOf pd_4 rfl) rfl (W := 0) (Nat.le_of_eq rfl) (by decide) (by decide) (by decide) (by decide) ?_
  intro v46 T46 L46 X46 q46
  obtain ⟨f_46, rfl, Nq46, K46, G46_0, G46_1⟩ := q46
  have q50 := (Nat.le_trans (Nat.le_trans q41 E40.1) (Nat.le_of_eq W43.size.symm))
  have N46 := Fr.app N43 Nq46
  show Go p e below s _ _ _ T46 (mkF m 88 #[.val (.ref a), .val (.int (3 : Int32))] [])
  refine wret C X46 f1_88 rfl (by decide) (by decide) ?_
  have q51 := (((((((((((((((((((((((Keep.refl h0 [a]).ext E2).wr W3 (Or.inl (List.mem_of_getElem? (i := 0) rfl))).wr W5 (Or.inl (List.mem_of_getElem? (i := 0) rfl))).ext E6).wr W9 (Or.inl (List.mem_of_getElem? (i := 0) rfl))).ext E10).wr W13 (Or.inl (List.mem_of_getElem? (i := 0) rfl))).ext E14).wr W18 (Or.inl (List.mem_of_getElem? (i := 0) rfl))).ext E19).wr W22 (Or.inl (List.mem_of_getElem? (i := 0) rfl))).ext E23).wr W26 (Or.inl (List.mem_of_getElem? (i := 0) rfl))).ext E27).wr W30 (Or.inl (List.mem_of_getElem? (i := 0) rfl))).ext E31).wr W35 (Or.inl (List.mem_of_getElem? (i := 0) rfl))).ext E36).wr W39 (Or.inl (List.mem_of_getElem? (i := 0) rfl))).ext E40).wr W43 (Or.inl (List.mem_of_getElem? (i := 0) rfl))).trans K46 (allS (Or.inr sz2) all0))
  have ne52 : b6 ≠ b10 := (Nat.ne_of_lt (Nat.lt_of_lt_of_le (Nat.lt_of_lt_of_eq Vp6.lt W9.size.symm) (Nat.le_of_eq g10.symm)))
  have ne53 : b6 ≠ b14 := (Nat.ne_of_lt (Nat.lt_of_lt_of_le (Nat.lt_of_lt_of_eq (Nat.lt_of_lt_of_le (Nat.lt_of_lt_of_eq Vp6.lt W9.size.symm) E10.1) W13.size.symm) (Nat.le_of_eq g14.symm)))
  have ne54 : b6 ≠ b19 := (Nat.ne_of_lt (Nat.lt_of_lt_of_le (Nat.lt_of_lt_of_eq (Nat.lt_of_lt_of_le (Nat.lt_of_lt_of_eq (Nat.lt_of_lt_of_le (Nat.lt_of_lt_of_eq Vp6.lt W9.size.symm) E10.1) W13.size.symm) E14.1) W18.size.symm) (Nat.le_of_eq g19.symm)))
  have ne55 : b6 ≠ b23 := (Nat.ne_of_lt (Nat.lt_of_lt_of_le (Nat.lt_of_lt_of_eq (Nat.lt_of_lt_of_le (Nat.lt_of_lt_of_eq (Nat.lt_of_lt_of_le (Nat.lt_of_lt_of_eq (Nat.lt_of_lt_of_le (Nat.lt_of_lt_of_eq Vp6.lt W9.size.symm) E10.1) W13.size.symm) E14.1) W18.size.symm) E19.1) W22.size.symm) (Nat.le_of_eq g23.symm)))
  have ne56 : b6 ≠ b27 := (Nat.ne_of_lt (Nat.lt_of_lt_of_le (Nat.lt_of_lt_of_eq (Nat.lt_of_lt_of_le (Nat.lt_of_lt_of_eq (Nat.lt_of_lt_of_le (Nat.lt_of_lt_of_eq (Nat.lt_of_lt_of_le (Nat.lt_of_lt_of_eq (Nat.lt_of_lt_of_le (Nat.lt_of_lt_of_eq Vp6.lt W9.size.symm) E10.1) W13.size.symm) E14.1) W18.size.symm) E19.1) W22.size.symm) E23.1) W26.size.symm) (Nat.le_of_eq g27.symm)))
  have ne57 : b6 ≠ b31 := (Nat.ne_of_lt (Nat.lt_of_lt_of_le (Nat.lt_of_lt_of_eq (Nat.lt_of_lt_of_le (Nat.lt_of_lt_of_eq (Nat.lt_of_lt_of_le (Nat.lt_of_lt_of_eq (Nat.lt_of_lt_of_le (Nat.lt_of_lt_of_eq (Nat.lt_of_lt_of_le (Nat.lt_of_lt_of_eq (Nat.lt_of_lt_of_le (Nat.lt_of_lt_of_eq Vp6.lt W9.size.symm) E10.1) W13.size.symm) E14.1) W18.size.symm) E19.1) W22.size.symm) E23.1) W26.size.symm) E27.1) W30.size.symm) (Nat.le_of_eq g31.symm)))
  have ne58 : b6 ≠ b36 := (Nat.ne_of_lt (Nat.lt_of_lt_of_le (Nat.lt_of_lt_of_eq (Nat.lt_of_lt_of_le (Nat.lt_of_lt_of_eq (Nat.lt_of_lt_of_le (Nat.lt_of_lt_of_eq (Nat.lt_of_lt_of_le (Nat.lt_of_lt_of_eq (Nat.lt_of_lt_of_le (Nat.lt_of_lt_of_eq (Nat.lt_of_lt_of_le (Nat.lt_of_lt_of_eq (Nat.lt_of_lt_of_le (Nat.lt_of_lt_of_eq Vp6.lt W9.size.symm) E10.1) W13.size.symm) E14.1) W18.size.symm) E19.1) W22.size.symm) E23.1) W26.size.symm) E27.1) W30.size.symm) E31.1) W35.size.symm) (Nat.le_of_eq g36.symm)))
  have ne59 : b6 ≠ b40 := (Nat.ne_of_lt (Nat.lt_of_lt_of_le (Nat.lt_of_lt_of_eq (Nat.lt_of_lt_of_le (Nat.lt_of_lt_of_eq (Nat.lt_of_lt_of_le (Nat.lt_of_lt_of_eq (Nat.lt_of_lt_of_le (Nat.lt_of_lt_of_eq (Nat.lt_of_lt_of_le (Nat.lt_of_lt_of_eq (Nat.lt_of_lt_of_le (Nat.lt_of_lt_of_eq (Nat.lt_of_lt_of_le (Nat.lt_of_lt_of_eq (Nat.lt_of_lt_of_le (Nat.lt_of_lt_of_eq Vp6.lt W9.size.symm) E10.1) W13.size.symm) E14.1) W18.size.symm) E19.1) W22.size.symm) E23.1) W26.size.symm) E27.1) W30.size.symm) E31.1) W35.size.symm) E36.1) W39.size.symm) (Nat.le_of_eq g40.symm)))
  have ne60 : b2 ≠ b6 := (Nat.ne_of_lt (Nat.lt_of_lt_of_le (Nat.lt_of_lt_of_eq (Nat.lt_of_lt_of_eq Vp2.lt W3.size.symm) W5.size.symm) (Nat.le_of_eq g6.symm)))
  have ne61 : b10 ≠ b14 := (Nat.ne_of_lt (Nat.lt_of_lt_of_le (Nat.lt_of_lt_of_eq Vp10.lt W13.size.symm) (Nat.le_of_eq g14.symm)))
  have ne62 : b10 ≠ b19 := (Nat.ne_of_lt (Nat.lt_of_lt_of_le (Nat.lt_of_lt_of_eq (Nat.lt_of_lt_of_le (Nat.lt_of_lt_of_eq Vp10.lt W13.size.symm) E14.1) W18.size.symm) (Nat.le_of_eq g19.symm)))
  have ne63 : b10 ≠ b23 := (Nat.ne_of_lt (Nat.lt_of_lt_of_le (Nat.lt_of_lt_of_eq (Nat.lt_of_lt_of_le (Nat.lt_of_lt_of_eq (Nat.lt_of_lt_of_le (Nat.lt_of_lt_of_eq Vp10.lt W13.size.symm) E14.1) W18.size.symm) E19.1) W22.size.symm) (Nat.le_of_eq g23.symm)))
  have ne64 : b10 ≠ b27 := (Nat.ne_of_lt (Nat.lt_of_lt_of_le (Nat.lt_of_lt_of_eq (Nat.lt_of_lt_of_le (Nat.lt_of_lt_of_eq (Nat.lt_of_lt_of_le (Nat.lt_of_lt_of_eq (Nat.lt_of_lt_of_le (Nat.lt_of_lt_of_eq Vp10.lt W13.size.symm) E14.1) W18.size.symm) E19.1) W22.size.symm) E23.1) W26.size.symm) (Nat.le_of_eq g27.symm)))
  have ne65 : b10 ≠ b31 := (Nat.ne_of_lt (Nat.lt_of_lt_of_le (Nat.lt_of_lt_of_eq (Nat.lt_of_lt_of_le (Nat.lt_of_lt_of_eq (Nat.lt_of_lt_of_le (Nat.lt_of_lt_of_eq (Nat.lt_of_lt_of_le (Nat.lt_of_lt_of_eq (Nat.lt_of_lt_of_le (Nat.lt_of_lt_of_eq Vp10.lt W13.size.symm) E14.1) W18.size.symm) E19.1) W22.size.symm) E23.1) W26.size.symm) E27.1) W30.size.symm) (Nat.le_of_eq g31.symm)))
  have ne66 : b10 ≠ b36 := (Nat.ne_of_lt (Nat.lt_of_lt_of_le (Nat.lt_of_lt_of_eq (Nat.lt_of_lt_of_le (Nat.lt_of_lt_of_eq (Nat.lt_of_lt_of_le (Nat.lt_of_lt_of_eq (Nat.lt_of_lt_of_le (Nat.lt_of_lt_of_eq (Nat.lt_of_lt_of_le (Nat.lt_of_lt_of_eq (Nat.lt_of_lt_of_le (Nat.lt_of_lt_of_eq Vp10.lt W13.size.symm) E14.1) W18.size.symm) E19.1) W22.size.symm) E23.1) W26.size.symm) E27.1) W30.size.symm) E31.1) W35.size.symm) (Nat.le_of_eq g36.symm)))
  have ne67 : b10 ≠ b40 := (Nat.ne_of_lt (Nat.lt_of_lt_of_le (Nat.lt_of_lt_of_eq (Nat.lt_of_lt_of_le (Nat.lt_of_lt_of_eq (Nat.lt_of_lt_of_le (Nat.lt_of_lt_of_eq (Nat.lt_of_lt_of_le (Nat.lt_of_lt_of_eq (Nat.lt_of_lt_of_le (Nat.lt_of_lt_of_eq (Nat.lt_of_lt_of_le (Nat.lt_of_lt_of_eq (Nat.lt_of_lt_of_le (Nat.lt_of_lt_of_eq Vp10.lt W13.size.symm) E14.1) W18.size.symm) E19.1) W22.size.symm) E23.1) W26.size.symm) E27.1) W30.size.symm) E31.1) W35.size.symm) E36.1) W39.size.symm) (Nat.le_of_eq g40.symm)))
  have ne68 : b2 ≠ b10 := (Nat.ne_of_lt (Nat.lt_of_lt_of_le (Nat.lt_of_lt_of_eq (Nat.lt_of_lt_of_le (Nat.lt_of_lt_of_eq (Nat.lt_of_lt_of_eq Vp2.lt W3.size.symm) W5.size.symm) E6.1) W9.size.symm) (Nat.le_of_eq g10.symm)))
  have ne69 : b14 ≠ b19 := (Nat.ne_of_lt (Nat.lt_of_lt_of_le (Nat.lt_of_lt_of_eq Vp14.lt W18.size.symm) (Nat.le_of_eq g19.symm)))
  have ne70 : b14 ≠ b23 := (Nat.ne_of_lt (Nat.lt_of_lt_of_le (Nat.lt_of_lt_of_eq (Nat.lt_of_lt_of_le (Nat.lt_of_lt_of_eq Vp14.lt W18.size.symm) E19.1) W22.size.symm) (Nat.le_of_eq g23.symm)))
  have ne71 : b14 ≠ b27 := (Nat.ne_of_lt (Nat.lt_of_lt_of_le (Nat.lt_of_lt_of_eq (Nat.lt_of_lt_of_le (Nat.lt_of_lt_of_eq (Nat.lt_of_lt_of_le (Nat.lt_of_lt_of_eq Vp14.lt W18.size.symm) E19.1) W22.size.symm) E23.1) W26.size.symm) (Nat.le_of_eq g27.symm)))
  have ne72 : b14 ≠ b31 := (Nat.ne_of_lt (Nat.lt_of_lt_of_le (Nat.lt_of_lt_of_eq (Nat.lt_of_lt_of_le (Nat.lt_of_lt_of_eq (Nat.lt_of_lt_of_le (Nat.lt_of_lt_of_eq (Nat.lt_of_lt_of_le (Nat.lt_of_lt_of_eq Vp14.lt W18.size.symm) E19.1) W22.size.symm) E23.1) W26.size.symm) E27.1) W30.size.symm) (Nat.le_of_eq g31.symm)))
  have ne73 : b14 ≠ b36 := (Nat.ne_of_lt (Nat.lt_of_lt_of_le (Nat.lt_of_lt_of_eq (Nat.lt_of_lt_of_le (Nat.lt_of_lt_of_eq (Nat.lt_of_lt_of_le (Nat.lt_of_lt_of_eq (Nat.lt_of_lt_of_le (Nat.lt_of_lt_of_eq (Nat.lt_of_lt_of_le (Nat.lt_of_lt_of_eq Vp14.lt W18.size.symm) E19.1) W22.size.symm) E23.1) W26.size.symm) E27.1) W30.size.symm) E31.1) W35.size.symm) (Nat.le_of_eq g36.symm)))
  have ne74 : b14 ≠ b40 := (Nat.ne_of_lt (Nat.lt_of_lt_of_le (Nat.lt_of_lt_of_eq (Nat.lt_of_lt_of_le (Nat.lt_of_lt_of_eq (Nat.lt_of_lt_of_le (Nat.lt_of_lt_of_eq (Nat.lt_of_lt_of_le (Nat.lt_of_lt_of_eq (Nat.lt_of_lt_of_le (Nat.lt_of_lt_of_eq (Nat.lt_of_lt_of_le (Nat.lt_of_lt_of_eq Vp14.lt W18.size.symm) E19.1) W22.size.symm) E23.1) W26.size.symm) E27.1) W30.size.symm) E31.1) W35.size.symm) E36.1) W39.size.symm) (Nat.le_of_eq g40.symm)))
  have ne75 : b2 ≠ b14 := (Nat.ne_of_lt (Nat.lt_of_lt_of_le (Nat.lt_of_lt_of_eq (Nat.lt_of_lt_of_le (Nat.lt_of_lt_of_eq (Nat.lt_of_lt_of_le (Nat.lt_of_lt_of_eq (Nat.lt_of_lt_of_eq Vp2.lt W3.size.symm) W5.size.symm) E6.1) W9.size.symm) E10.1) W13.size.symm) (Nat.le_of_eq g14.symm)))
  have ne76 : b19 ≠ b23 := (Nat.ne_of_lt (Nat.lt_of_lt_of_le (Nat.lt_of_lt_of_eq Vp19.lt W22.size.symm) (Nat.le_of_eq g23.symm)))
  have ne77 : b19 ≠ b27 := (Nat.ne_of_lt (Nat.lt_of_lt_of_le (Nat.lt_of_lt_of_eq (Nat.lt_of_lt_of_le (Nat.lt_of_lt_of_eq Vp19.lt W22.size.symm) E23.1) W26.size.symm) (Nat.le_of_eq g27.symm)))
  have ne78 : b19 ≠ b31 := (Nat.ne_of_lt (Nat.lt_of_lt_of_le (Nat.lt_of_lt_of_eq (Nat.lt_of_lt_of_le (Nat.lt_of_lt_of_eq (Nat.lt_of_lt_of_le (Nat.lt_of_lt_of_eq Vp19.lt W22.size.symm) E23.1) W26.size.symm) E27.1) W30.size.symm) (Nat.le_of_eq g31.symm)))
  have ne79 : b19 ≠ b36 := (Nat.ne_of_lt (Nat.lt_of_lt_of_le (Nat.lt_of_lt_of_eq (Nat.lt_of_lt_of_le (Nat.lt_of_lt_of_eq (Nat.lt_of_lt_of_le (Nat.lt_of_lt_of_eq (Nat.lt_of_lt_of_le (Nat.lt_of_lt_of_eq Vp19.lt W22.size.symm) E23.1) W26.size.symm) E27.1) W30.size.symm) E31.1) W35.size.symm) (Nat.le_of_eq g36.symm)))
  have ne80 : b19 ≠ b40 := (Nat.ne_of_lt (Nat.lt_of_lt_of_le (Nat.lt_of_lt_of_eq (Nat.lt_of_lt_of_le (Nat.lt_of_lt_of_eq (Nat.lt_of_lt_of_le (Nat.lt_of_lt_of_eq (Nat.lt_of_lt_of_le (Nat.lt_of_lt_of_eq (Nat.lt_of_lt_of_le (Nat.lt_of_lt_of_eq Vp19.lt W22.size.symm) E23.1) W26.size.symm) E27.1) W30.size.symm) E31.1) W35.size.symm) E36.1) W39.size.symm) (Nat.le_of_eq g40.symm)))
  have ne81 : b2 ≠ b19 := (Nat.ne_of_lt (Nat.lt_of_lt_of_le (Nat.lt_of_lt_of_eq (Nat.lt_of_lt_of_le (Nat.lt_of_lt_of_eq (Nat.lt_of_lt_of_le (Nat.lt_of_lt_of_eq (Nat.lt_of_lt_of_le (Nat.lt_of_lt_of_eq (Nat.lt_of_lt_of_eq Vp2.lt W3.size.symm) W5.size.symm) E6.1) W9.size.symm) E10.1) W13.size.symm) E14.1) W18.size.symm) (Nat.le_of_eq g19.symm)))
  have ne82 : b23 ≠ b27 := (Nat.ne_of_lt (Nat.lt_of_lt_of_le (Nat.lt_of_lt_of_eq Vp23.lt W26.size.symm) (Nat.le_of_eq g27.symm)))
  have ne83 : b23 ≠ b31 := (Nat.ne_of_lt (Nat.lt_of_lt_of_le (Nat.lt_of_lt_of_eq (Nat.lt_of_lt_of_le (Nat.lt_of_lt_of_eq Vp23.lt W26.size.symm) E27.1) W30.size.symm) (Nat.le_of_eq g31.symm)))
  have ne84 : b23 ≠ b36 := (Nat.ne_of_lt (Nat.lt_of_lt_of_le (Nat.lt_of_lt_of_eq (Nat.lt_of_lt_of_le (Nat.lt_of_lt_of_eq (Nat.lt_of_lt_of_le (Nat.lt_of_lt_of_eq Vp23.lt W26.size.symm) E27.1) W30.size.symm) E31.1) W35.size.symm) (Nat.le_of_eq g36.symm)))
  have ne85 : b23 ≠ b40 := (Nat.ne_of_lt (Nat.lt_of_lt_of_le (Nat.lt_of_lt_of_eq (Nat.lt_of_lt_of_le (Nat.lt_of_lt_of_eq (Nat.lt_of_lt_of_le (Nat.lt_of_lt_of_eq (Nat.lt_of_lt_of_le (Nat.lt_of_lt_of_eq Vp23.lt W26.size.symm) E27.1) W30.size.symm) E31.1) W35.size.symm) E36.1) W39.size.symm) (Nat.le_of_eq g40.symm)))
  have ne86 : b2 ≠ b23 := (Nat.ne_of_lt (Nat.lt_of_lt_of_le (Nat.lt_of_lt_of_eq (Nat.lt_of_lt_of_le (Nat.lt_of_lt_of_eq (Nat.lt_of_lt_of_le (Nat.lt_of_lt_of_eq (Nat.lt_of_lt_of_le (Nat.lt_of_lt_of_eq (Nat.lt_of_lt_of_le (Nat.lt_of_lt_of_eq (Nat.lt_of_lt_of_eq Vp2.lt W3.size.symm) W5.size.symm) E6.1) W9.size.symm) E10.1) W13.size.symm) E14.1) W18.size.symm) E19.1) W22.size.symm) (Nat.le_of_eq g23.symm)))
  have ne87 : b27 ≠ b31 := (Nat.ne_of_lt (Nat.lt_of_lt_of_le (Nat.lt_of_lt_of_eq Vp27.lt W30.size.symm) (Nat.le_of_eq g31.symm)))
  have ne88 : b27 ≠ b36 := (Nat.ne_of_lt (Nat.lt_of_lt_of_le (Nat.lt_of_lt_of_eq (Nat.lt_of_lt_of_le (Nat.lt_of_lt_of_eq Vp27.lt W30.size.symm) E31.1) W35.size.symm) (Nat.le_of_eq g36.symm)))
  have ne89 : b27 ≠ b40 := (Nat.ne_of_lt (Nat.lt_of_lt_of_le (Nat.lt_of_lt_of_eq (Nat.lt_of_lt_of_le (Nat.lt_of_lt_of_eq (Nat.lt_of_lt_of_le (Nat.lt_of_lt_of_eq Vp27.lt W30.size.symm) E31.1) W35.size.symm) E36.1) W39.size.symm) (Nat.le_of_eq g40.symm)))
  have ne90 : b2 ≠ b27 := (Nat.ne_of_lt (Nat.lt_of_lt_of_le (Nat.lt_of_lt_of_eq (Nat.lt_of_lt_of_le (Nat.lt_of_lt_of_eq (Nat.lt_of_lt_of_le (Nat.lt_of_lt_of_eq (Nat.lt_of_lt_of_le (Nat.lt_of_lt_of_eq (Nat.lt_of_lt_of_le (Nat.lt_of_lt_of_eq (Nat.lt_of_lt_of_le (Nat.lt_of_lt_of_eq (Nat.lt_of_lt_of_eq Vp2.lt W3.size.symm) W5.size.symm) E6.1) W9.size.symm) E10.1) W13.size.symm) E14.1) W18.size.symm) E19.1) W22.size.symm) E23.1) W26.size.symm) (Nat.le_of_eq g27.symm)))
  have ne91 : b31 ≠ b36 := (Nat.ne_of_lt (Nat.lt_of_lt_of_le (Nat.lt_of_lt_of_eq Vp31.lt W35.size.symm) (Nat.le_of_eq g36.symm)))
  have ne92 : b31 ≠ b40 := (Nat.ne_of_lt (Nat.lt_of_lt_of_le (Nat.lt_of_lt_of_eq (Nat.lt_of_lt_of_le (Nat.lt_of_lt_of_eq Vp31.lt W35.size.symm) E36.1) W39.size.symm) (Nat.le_of_eq g40.symm)))
  have ne93 : b2 ≠ b31 := (Nat.ne_of_lt (Nat.lt_of_lt_of_le (Nat.lt_of_lt_of_eq (Nat.lt_of_lt_of_le (Nat.lt_of_lt_of_eq (Nat.lt_of_lt_of_le (Nat.lt_of_lt_of_eq (Nat.lt_of_lt_of_le (Nat.lt_of_lt_of_eq (Nat.lt_of_lt_of_le (Nat.lt_of_lt_of_eq (Nat.lt_of_lt_of_le (Nat.lt_of_lt_of_eq (Nat.lt_of_lt_of_le (Nat.lt_of_lt_of_eq (Nat.lt_of_lt_of_eq Vp2.lt W3.size.symm) W5.size.symm) E6.1) W9.size.symm) E10.1) W13.size.symm) E14.1) W18.size.symm) E19.1) W22.size.symm) E23.1) W26.size.symm) E27.1) W30.size.symm) (Nat.le_of_eq g31.symm)))
  have ne94 : b36 ≠ b40 := (Nat.ne_of_lt (Nat.lt_of_lt_of_le (Nat.lt_of_lt_of_eq Vp36.lt W39.size.symm) (Nat.le_of_eq g40.symm)))
  have ne95 : b2 ≠ b36 := (Nat.ne_of_lt (Nat.lt_of_lt_of_le (Nat.lt_of_lt_of_eq (Nat.lt_of_lt_of_le (Nat.lt_of_lt_of_eq (Nat.lt_of_lt_of_le (Nat.lt_of_lt_of_eq (Nat.lt_of_lt_of_le (Nat.lt_of_lt_of_eq (Nat.lt_of_lt_of_le (Nat.lt_of_lt_of_eq (Nat.lt_of_lt_of_le (Nat.lt_of_lt_of_eq (Nat.lt_of_lt_of_le (Nat.lt_of_lt_of_eq (Nat.lt_of_lt_of_le (Nat.lt_of_lt_of_eq (Nat.lt_of_lt_of_eq Vp2.lt W3.size.symm) W5.size.symm) E6.1) W9.size.symm) E10.1) W13.size.symm) E14.1) W18.size.symm) E19.1) W22.size.symm) E23.1) W26.size.symm) E27.1) W30.size.symm) E31.1) W35.size.symm) (Nat.le_of_eq g36.symm)))
  have ne96 : b2 ≠ b40 := (Nat.ne_of_lt (Nat.lt_of_lt_of_le (Nat.lt_of_lt_of_eq (Nat.lt_of_lt_of_le (Nat.lt_of_lt_of_eq (Nat.lt_of_lt_of_le (Nat.lt_of_lt_of_eq (Nat.lt_of_lt_of_le (Nat.lt_of_lt_of_eq (Nat.lt_of_lt_of_le (Nat.lt_of_lt_of_eq (Nat.lt_of_lt_of_le (Nat.lt_of_lt_of_eq (Nat.lt_of_lt_of_le (Nat.lt_of_lt_of_eq (Nat.lt_of_lt_of_le (Nat.lt_of_lt_of_eq (Nat.lt_of_lt_of_le (Nat.lt_of_lt_of_eq (Nat.lt_of_lt_of_eq Vp2.lt W3.size.symm) W5.size.symm) E6.1) W9.size.symm) E10.1) W13.size.symm) E14.1) W18.size.symm) E19.1) W22.size.symm) E23.1) W26.size.symm) E27.1) W30.size.symm) E31.1) W35.size.symm) E36.1) W39.size.symm) (Nat.le_of_eq g40.symm)))
  have q97 := ((((((q33.wr W35).ext E36).wr W39).ext E40).wr W43).keep K46)
  have q98 := (((((((((((((((((Fw9.ext E10).other W13 (Or.inr (slot_ne (Or.inr (tw_17 hw)) (Or.inr (tw_19 hw)) (by decide) (t := (.array .double)) (t' := (.array .int)) (by decide) (by decide)))).ext E14).other W18 (Or.inr (slot_ne (Or.inr (tw_17 hw)) (Or.inr (tw_21 hw)) (by decide) (t := (.array .double)) (t' := (.array .int)) (by decide) (by decide)))).ext E19).other W22 (Or.inr (slot_ne (Or.inr (tw_17 hw)) (Or.inr (tw_23 hw)) (by decide) (t := (.array .double)) (t' := (.array .int)) (by decide) (by decide)))).ext E23).other W26 (Or.inr (slot_ne (Or.inr (tw_17 hw)) (Or.inr (tw_25 hw)) (by decide) (t := (.array .double)) (t' := (.array .int)) (by decide) (by decide)))).ext E27).other W30 (Or.inr (slot_ne (Or.inr (tw_17 hw)) (Or.inr (tw_27 hw)) (by decide) (t := (.array .double)) (t' := (.array .int)) (by decide) (by decide)))).ext E31).other W35 (Or.inr (slot_ne (Or.inr (tw_17 hw)) (Or.inr (tw_30 hw)) (by decide) (t := (.array .double)) (t' := (.array .boolean)) (by decide) (by decide)))).ext E36).other W39 (Or.inr (slot_ne (Or.inr (tw_17 hw)) (Or.inr (tw_32 hw)) (by decide) (t := (.array .double)) (t' := (.array .boolean)) (by decide) (by decide)))).ext E40).other W43 (Or.inr (slot_ne (Or.inr (tw_17 hw)) (Or.inr (tw_34 hw)) (by decide) (t := (.array .double)) (t' := (.array .int)) (by decide) (by decide)))).keep K46 (ninS ne47 nin0))
  have q99 := (((((((((((((((Fw13.ext E14).other W18 (Or.inr (slot_ne (Or.inr (tw_19 hw)) (Or.inr (tw_21 hw)) (by decide) (t := (.array .int)) (t' := (.array .int)) (by decide) (by decide)))).ext E19).other W22 (Or.inr (slot_ne (Or.inr (tw_19 hw)) (Or.inr (tw_23 hw)) (by decide) (t := (.array .int)) (t' := (.array .int)) (by decide) (by decide)))).ext E23).other W26 (Or.inr (slot_ne (Or.inr (tw_19 hw)) (Or.inr (tw_25 hw)) (by decide) (t := (.array .int)) (t' := (.array .int)) (by decide) (by decide)))).ext E27).other W30 (Or.inr (slot_ne (Or.inr (tw_19 hw)) (Or.inr (tw_27 hw)) (by decide) (t := (.array .int)) (t' := (.array .int)) (by decide) (by decide)))).ext E31).other W35 (Or.inr (slot_ne (Or.inr (tw_19 hw)) (Or.inr (tw_30 hw)) (by decide) (t := (.array .int)) (t' := (.array .boolean)) (by decide) (by decide)))).ext E36).other W39 (Or.inr (slot_ne (Or.inr (tw_19 hw)) (Or.inr (tw_32 hw)) (by decide) (t := (.array .int)) (t' := (.array .boolean)) (by decide) (by decide)))).ext E40).other W43 (Or.inr (slot_ne (Or.inr (tw_19 hw)) (Or.inr (tw_34 hw)) (by decide) (t := (.array .int)) (t' := (.array .int)) (by decide) (by decide)))).keep K46 (ninS ne47 nin0))
  have q100 := (((((((((((((Fw18.ext E19).other W22 (Or.inr (slot_ne (Or.inr (tw_21 hw)) (Or.inr (tw_23 hw)) (by decide) (t := (.array .int)) (t' := (.array .int)) (by decide) (by decide)))).ext E23).other W26 (Or.inr (slot_ne (Or.inr (tw_21 hw)) (Or.inr (tw_25 hw)) (by decide) (t := (.array .int)) (t' := (.array .int)) (by decide) (by decide)))).ext E27).other W30 (Or.inr (slot_ne (Or.inr (tw_21 hw)) (Or.inr (tw_27 hw)) (by decide) (t := (.array .int)) (t' := (.array .int)) (by decide) (by decide)))).ext E31).other W35 (Or.inr (slot_ne (Or.inr (tw_21 hw)) (Or.inr (tw_30 hw)) (by decide) (t := (.array .int)) (t' := (.array .boolean)) (by decide) (by decide)))).ext E36).other W39 (Or.inr (slot_ne (Or.inr (tw_21 hw)) (Or.inr (tw_32 hw)) (by decide) (t := (.array .int)) (t' := (.array .boolean)) (by decide) (by decide)))).ext E40).other W43 (Or.inr (slot_ne (Or.inr (tw_21 hw)) (Or.inr (tw_34 hw)) (by decide) (t := (.array .int)) (t' := (.array .int)) (by decide) (by decide)))).keep K46 (ninS ne47 nin0))
  have q101 := (((((((((((Fw22.ext E23).other W26 (Or.inr (slot_ne (Or.inr (tw_23 hw)) (Or.inr (tw_25 hw)) (by decide) (t := (.array .int)) (t' := (.array .int)) (by decide) (by decide)))).ext E27).other W30 (Or.inr (slot_ne (Or.inr (tw_23 hw)) (Or.inr (tw_27 hw)) (by decide) (t := (.array .int)) (t' := (.array .int)) (by decide) (by decide)))).ext E31).other W35 (Or.inr (slot_ne (Or.inr (tw_23 hw)) (Or.inr (tw_30 hw)) (by decide) (t := (.array .int)) (t' := (.array .boolean)) (by decide) (by decide)))).ext E36).other W39 (Or.inr (slot_ne (Or.inr (tw_23 hw)) (Or.inr (tw_32 hw)) (by decide) (t := (.array .int)) (t' := (.array .boolean)) (by decide) (by decide)))).ext E40).other W43 (Or.inr (slot_ne (Or.inr (tw_23 hw)) (Or.inr (tw_34 hw)) (by decide) (t := (.array .int)) (t' := (.array .int)) (by decide) (by decide)))).keep K46 (ninS ne47 nin0))
  have q102 := (((((((((Fw26.ext E27).other W30 (Or.inr (slot_ne (Or.inr (tw_25 hw)) (Or.inr (tw_27 hw)) (by decide) (t := (.array .int)) (t' := (.array .int)) (by decide) (by decide)))).ext E31).other W35 (Or.inr (slot_ne (Or.inr (tw_25 hw)) (Or.inr (tw_30 hw)) (by decide) (t := (.array .int)) (t' := (.array .boolean)) (by decide) (by decide)))).ext E36).other W39 (Or.inr (slot_ne (Or.inr (tw_25 hw)) (Or.inr (tw_32 hw)) (by decide) (t := (.array .int)) (t' := (.array .boolean)) (by decide) (by decide)))).ext E40).other W43 (Or.inr (slot_ne (Or.inr (tw_25 hw)) (Or.inr (tw_34 hw)) (by decide) (t := (.array .int)) (t' := (.array .int)) (by decide) (by decide)))).keep K46 (ninS ne47 nin0))
  have q103 := (((((((Fw30.ext E31).other W35 (Or.inr (slot_ne (Or.inr (tw_27 hw)) (Or.inr (tw_30 hw)) (by decide) (t := (.array .int)) (t' := (.array .boolean)) (by decide) (by decide)))).ext E36).other W39 (Or.inr (slot_ne (Or.inr (tw_27 hw)) (Or.inr (tw_32 hw)) (by decide) (t := (.array .int)) (t' := (.array .boolean)) (by decide) (by decide)))).ext E40).other W43 (Or.inr (slot_ne (Or.inr (tw_27 hw)) (Or.inr (tw_34 hw)) (by decide) (t := (.array .int)) (t' := (.array .int)) (by decide) (by decide)))).keep K46 (ninS ne47 nin0))
  have q104 := (((((Fw35.ext E36).other W39 (Or.inr (slot_ne (Or.inr (tw_30 hw)) (Or.inr (tw_32 hw)) (by decide) (t := (.array .boolean)) (t' := (.array .boolean)) (by decide) (by decide)))).ext E40).other W43 (Or.inr (slot_ne (Or.inr (tw_30 hw)) (Or.inr (tw_34 hw)) (by decide) (t := (.array .boolean)) (t' := (.array .int)) (by decide) (by decide)))).keep K46 (ninS ne47 nin0))
  have q105 := (((Fw39.ext E40).other W43 (Or.inr (slot_ne (Or.inr (tw_32 hw)) (Or.inr (tw_34 hw)) (by decide) (t := (.array .boolean)) (t' := (.array .int)) (by decide) (by decide)))).keep K46 (ninS ne47 nin0))
  have q106 := (((((((((((((((((((Fw5.ext E6).other W9 (Or.inr (slot_ne (Or.inl (tw_14 hw)) (Or.inr (tw_17 hw)) (by decide) (t := .int) (t' := (.array .double)) (by decide) (by decide)))).ext E10).other W13 (Or.inr (slot_ne (Or.inl (tw_14 hw)) (Or.inr (tw_19 hw)) (by decide) (t := .int) (t' := (.array .int)) (by decide) (by decide)))).ext E14).other W18 (Or.inr (slot_ne (Or.inl (tw_14 hw)) (Or.inr (tw_21 hw)) (by decide) (t := .int) (t' := (.array .int)) (by decide) (by decide)))).ext E19).other W22 (Or.inr (slot_ne (Or.inl (tw_14 hw)) (Or.inr (tw_23 hw)) (by decide) (t := .int) (t' := (.array .int)) (by decide) (by decide)))).ext E23).other W26 (Or.inr (slot_ne (Or.inl (tw_14 hw)) (Or.inr (tw_25 hw)) (by decide) (t := .int) (t' := (.array .int)) (by decide) (by decide)))).ext E27).other W30 (Or.inr (slot_ne (Or.inl (tw_14 hw)) (Or.inr (tw_27 hw)) (by decide) (t := .int) (t' := (.array .int)) (by decide) (by decide)))).ext E31).other W35 (Or.inr (slot_ne (Or.inl (tw_14 hw)) (Or.inr (tw_30 hw)) (by decide) (t := .int) (t' := (.array .boolean)) (by decide) (by decide)))).ext E36).other W39 (Or.inr (slot_ne (Or.inl (tw_14 hw)) (Or.inr (tw_32 hw)) (by decide) (t := .int) (t' := (.array .boolean)) (by decide) (by decide)))).ext E40).other W43 (Or.inr (slot_ne (Or.inl (tw_14 hw)) (Or.inr (tw_34 hw)) (by decide) (t := .int) (t' := (.array .int)) (by decide) (by decide)))).keep K46 (ninS ne47 nin0))
  have ne107 : a ≠ b6 := (Nat.ne_of_lt (Nat.lt_of_lt_of_le (Nat.lt_of_lt_of_eq (Nat.lt_of_lt_of_eq (Nat.lt_of_lt_of_le Exa_0.lt E2.1) W3.size.symm) W5.size.symm) (Nat.le_of_eq g6.symm)))
  have q108 := ((((((((((((((((((Vp6.other W9 (Ne.symm ne107)).ext E10).other W13 (Ne.symm ne107)).ext E14).other W18 (Ne.symm ne107)).ext E19).other W22 (Ne.symm ne107)).ext E23).other W26 (Ne.symm ne107)).ext E27).other W30 (Ne.symm ne107)).ext E31).other W35 (Ne.symm ne107)).ext E36).other W39 (Ne.symm ne107)).ext E40).other W43 (Ne.symm ne107)).keep K46 (ninS (Ne.symm ne60) nin0))
  have ne109 : a ≠ b10 := (Nat.ne_of_lt (Nat.lt_of_lt_of_le (Nat.lt_of_lt_of_eq (Nat.lt_of_lt_of_le (Nat.lt_of_lt_of_eq (Nat.lt_of_lt_of_eq (Nat.lt_of_lt_of_le Exa_0.lt E2.1) W3.size.symm) W5.size.symm) E6.1) W9.size.symm) (Nat.le_of_eq g10.symm)))
  have q110 := ((((((((((((((((Vp10.other W13 (Ne.symm ne109)).ext E14).other W18 (Ne.symm ne109)).ext E19).other W22 (Ne.symm ne109)).ext E23).other W26 (Ne.symm ne109)).ext E27).other W30 (Ne.symm ne109)).ext E31).other W35 (Ne.symm ne109)).ext E36).other W39 (Ne.symm ne109)).ext E40).other W43 (Ne.symm ne109)).keep K46 (ninS (Ne.symm ne68) nin0))
  have ne111 : a ≠ b14 := (Nat.ne_of_lt (Nat.lt_of_lt_of_le (Nat.lt_of_lt_of_eq (Nat.lt_of_lt_of_le (Nat.lt_of_lt_of_eq (Nat.lt_of_lt_of_le (Nat.lt_of_lt_of_eq (Nat.lt_of_lt_of_eq (Nat.lt_of_lt_of_le Exa_0.lt E2.1) W3.size.symm) W5.size.symm) E6.1) W9.size.symm) E10.1) W13.size.symm) (Nat.le_of_eq g14.symm)))
  have q112 := ((((((((((((((Vp14.other W18 (Ne.symm ne111)).ext E19).other W22 (Ne.symm ne111)).ext E23).other W26 (Ne.symm ne111)).ext E27).other W30 (Ne.symm ne111)).ext E31).other W35 (Ne.symm ne111)).ext E36).other W39 (Ne.symm ne111)).ext E40).other W43 (Ne.symm ne111)).keep K46 (ninS (Ne.symm ne75) nin0))
  have ne113 : a ≠ b19 := (Nat.ne_of_lt (Nat.lt_of_lt_of_le (Nat.lt_of_lt_of_eq (Nat.lt_of_lt_of_le (Nat.lt_of_lt_of_eq (Nat.lt_of_lt_of_le (Nat.lt_of_lt_of_eq (Nat.lt_of_lt_of_le (Nat.lt_of_lt_of_eq (Nat.lt_of_lt_of_eq (Nat.lt_of_lt_of_le Exa_0.lt E2.1) W3.size.symm) W5.size.symm) E6.1) W9.size.symm) E10.1) W13.size.symm) E14.1) W18.size.symm) (Nat.le_of_eq g19.symm)))
  have q114 := ((((((((((((Vp19.other W22 (Ne.symm ne113)).ext E23).other W26 (Ne.symm ne113)).ext E27).other W30 (Ne.symm ne113)).ext E31).other W35 (Ne.symm ne113)).ext E36).other W39 (Ne.symm ne113)).ext E40).other W43 (Ne.symm ne113)).keep K46 (ninS (Ne.symm ne81) nin0))
  have ne115 : a ≠ b23 := (Nat.ne_of_lt (Nat.lt_of_lt_of_le (Nat.lt_of_lt_of_eq (Nat.lt_of_lt_of_le (Nat.lt_of_lt_of_eq (Nat.lt_of_lt_of_le (Nat.lt_of_lt_of_eq (Nat.lt_of_lt_of_le (Nat.lt_of_lt_of_eq (Nat.lt_of_lt_of_le (Nat.lt_of_lt_of_eq (Nat.lt_of_lt_of_eq (Nat.lt_of_lt_of_le Exa_0.lt E2.1) W3.size.symm) W5.size.symm) E6.1) W9.size.symm) E10.1) W13.size.symm) E14.1) W18.size.symm) E19.1) W22.size.symm) (Nat.le_of_eq g23.symm)))
  have q116 := ((((((((((Vp23.other W26 (Ne.symm ne115)).ext E27).other W30 (Ne.symm ne115)).ext E31).other W35 (Ne.symm ne115)).ext E36).other W39 (Ne.symm ne115)).ext E40).other W43 (Ne.symm ne115)).keep K46 (ninS (Ne.symm ne86) nin0))
  have ne117 : a ≠ b27 := (Nat.ne_of_lt (Nat.lt_of_lt_of_le (Nat.lt_of_lt_of_eq (Nat.lt_of_lt_of_le (Nat.lt_of_lt_of_eq (Nat.lt_of_lt_of_le (Nat.lt_of_lt_of_eq (Nat.lt_of_lt_of_le (Nat.lt_of_lt_of_eq (Nat.lt_of_lt_of_le (Nat.lt_of_lt_of_eq (Nat.lt_of_lt_of_le (Nat.lt_of_lt_of_eq (Nat.lt_of_lt_of_eq (Nat.lt_of_lt_of_le Exa_0.lt E2.1) W3.size.symm) W5.size.symm) E6.1) W9.size.symm) E10.1) W13.size.symm) E14.1) W18.size.symm) E19.1) W22.size.symm) E23.1) W26.size.symm) (Nat.le_of_eq g27.symm)))
  have q118 := ((((((((Vp27.other W30 (Ne.symm ne117)).ext E31).other W35 (Ne.symm ne117)).ext E36).other W39 (Ne.symm ne117)).ext E40).other W43 (Ne.symm ne117)).keep K46 (ninS (Ne.symm ne90) nin0))
  have ne119 : a ≠ b31 := (Nat.ne_of_lt (Nat.lt_of_lt_of_le (Nat.lt_of_lt_of_eq (Nat.lt_of_lt_of_le (Nat.lt_of_lt_of_eq (Nat.lt_of_lt_of_le (Nat.lt_of_lt_of_eq (Nat.lt_of_lt_of_le (Nat.lt_of_lt_of_eq (Nat.lt_of_lt_of_le (Nat.lt_of_lt_of_eq (Nat.lt_of_lt_of_le (Nat.lt_of_lt_of_eq (Nat.lt_of_lt_of_le (Nat.lt_of_lt_of_eq (Nat.lt_of_lt_of_eq (Nat.lt_of_lt_of_le Exa_0.lt E2.1) W3.size.symm) W5.size.symm) E6.1) W9.size.symm) E10.1) W13.size.symm) E14.1) W18.size.symm) E19.1) W22.size.symm) E23.1) W26.size.symm) E27.1) W30.size.symm) (Nat.le_of_eq g31.symm)))
  have q120 := ((((((Vp31.other W35 (Ne.symm ne119)).ext E36).other W39 (Ne.symm ne119)).ext E40).other W43 (Ne.symm ne119)).keep K46 (ninS (Ne.symm ne93) nin0))
  have ne121 : a ≠ b36 := (Nat.ne_of_lt (Nat.lt_of_lt_of_le (Nat.lt_of_lt_of_eq (Nat.lt_of_lt_of_le (Nat.lt_of_lt_of_eq (Nat.lt_of_lt_of_le (Nat.lt_of_lt_of_eq (Nat.lt_of_lt_of_le (Nat.lt_of_lt_of_eq (Nat.lt_of_lt_of_le (Nat.lt_of_lt_of_eq (Nat.lt_of_lt_of_le (Nat.lt_of_lt_of_eq (Nat.lt_of_lt_of_le (Nat.lt_of_lt_of_eq (Nat.lt_of_lt_of_le (Nat.lt_of_lt_of_eq (Nat.lt_of_lt_of_eq (Nat.lt_of_lt_of_le Exa_0.lt E2.1) W3.size.symm) W5.size.symm) E6.1) W9.size.symm) E10.1) W13.size.symm) E14.1) W18.size.symm) E19.1) W22.size.symm) E23.1) W26.size.symm) E27.1) W30.size.symm) E31.1) W35.size.symm) (Nat.le_of_eq g36.symm)))
  have q122 := ((((Vp36.other W39 (Ne.symm ne121)).ext E40).other W43 (Ne.symm ne121)).keep K46 (ninS (Ne.symm ne95) nin0))
  have ne123 : a ≠ b40 := (Nat.ne_of_lt (Nat.lt_of_lt_of_le (Nat.lt_of_lt_of_eq (Nat.lt_of_lt_of_le (Nat.lt_of_lt_of_eq (Nat.lt_of_lt_of_le (Nat.lt_of_lt_of_eq (Nat.lt_of_lt_of_le (Nat.lt_of_lt_of_eq (Nat.lt_of_lt_of_le (Nat.lt_of_lt_of_eq (Nat.lt_of_lt_of_le (Nat.lt_of_lt_of_eq (Nat.lt_of_lt_of_le (Nat.lt_of_lt_of_eq (Nat.lt_of_lt_of_le (Nat.lt_of_lt_of_eq (Nat.lt_of_lt_of_le (Nat.lt_of_lt_of_eq (Nat.lt_of_lt_of_eq (Nat.lt_of_lt_of_le Exa_0.lt E2.1) W3.size.symm) W5.size.symm) E6.1) W9.size.symm) E10.1) W13.size.symm) E14.1) W18.size.symm) E19.1) W22.size.symm) E23.1) W26.size.symm) E27.1) W30.size.symm) E31.1) W35.size.symm) E36.1) W39.size.symm) (Nat.le_of_eq g40.symm)))
  have q124 := ((Vp40.other W43 (Ne.symm ne123)).keep K46 (ninS (Ne.symm ne96) nin0))
  exact ⟨b6, b10, b14, b19, b23, b27, b31, b36, b40, b2, k6, k10, k14, k19, k23, k27, k31, k36, k40, k2, f_46, rfl, N46, q51, sz6, sz10, sz14, sz19, sz23, sz27, sz31, sz36, sz40, sz2, ne52, ne53, ne54, ne55, ne56, ne57, ne58, ne59, (Ne.symm ne60), ne61, ne62, ne63, ne64, ne65, ne66, ne67, (Ne.symm ne68), ne69, ne70, ne71, ne72, ne73, ne74, (Ne.symm ne75), ne76, ne77, ne78, ne79, ne80, (Ne.symm ne81), ne82, ne83, ne84, ne85, (Ne.symm ne86), ne87, ne88, ne89, (Ne.symm ne90), ne91, ne92, (Ne.symm ne93), ne94, (Ne.symm ne95), (Ne.symm ne96), q97, q98, q99, q100, q101, q102, q103, q104, q105, (Fw43.keep K46 (ninS ne47 nin0)), (q44.keep K46 (ninS ne47 nin0)), q106, q108, q110, q112, q114, q116, q118, q120, q122, q124, G46_0, G46_1⟩
theorem f4_0 : Dec prog_25_method_2_code 0 (.aload_n 0) 1 1 := ⟨by decide +kernel, rfl⟩
theorem f4_1 : Dec prog_25_method_2_code 1 (.getfield 13) 3 4 := ⟨by decide +kernel, rfl⟩
theorem f4_4 : Dec prog_25_method_2_code 4 (.iconst (-1)) 1 5 := ⟨by decide +kernel, rfl⟩
theorem f4_5 : DecJ prog_25_method_2_code 5 (.if_icmp .ne 7) 7 12 8 := ⟨by decide +kernel, by decide, by decide, rfl⟩
theorem f4_8 : Dec prog_25_method_2_code 8 (.iconst 1) 1 9 := ⟨by decide +kernel, rfl⟩
theorem f4_9 : DecJ prog_25_method_2_code 9 (.goto 4) 4 13 12 := ⟨by decide +kernel, by decide, by decide, rfl⟩
theorem f4_13 : Dec prog_25_method_2_code 13 (.ireturn) 1 14 := ⟨by decide +kernel, rfl⟩
theorem pn_4 : plainFor (⟨"com/example/hornwork/hornwork/FibonacciHeap", "isEmpty", "()Z"⟩ : MethodName) = true := plainFor_of_name (show plainName "com/example/hornwork/hornwork/FibonacciHeap" = true by first | (simp [plainName, overriddenIn]; done) | decide +kernel)
theorem ef_4_0 (m : MethodId) (a : Addr) : entryFrame m #[(.ref a)] 1 = mkF m 0 #[.val (.ref a)] [] := by first | (simp [entryFrame, mkF, argsToLocals, Value.category]; done) | rfl
def Q4_0 (Z : State) (a : Addr) (h0 : Heap) (n0 : Nat) (v9 : Option Value) (h9 : Heap) (L9 : List Loc) : Prop := v9 = some (.int (1 : Int32)) ∧ Fr n0 L9 ∧ h9 = h0
set_option maxRecDepth 65536 in
set_option maxHeartbeats 40000000 in
theorem rm4_0 (l : Launch) (Z : State) (a0 : Array Value) (hw : ∀ d ∈ tables_1, d.before a0 Z = true) (ws : List Jvm.Cond) (a : Addr) (h0 : Heap) (n0 : Nat) (Z0 : n0 ≤ h0.size) (Fld_0 : Fld Z h0 a "com/example/hornwork/hornwork/FibonacciHeap" "least" "I" (.int (-1 : Int32))) :
    MetFree l (⟨"com/example/hornwork/hornwork/FibonacciHeap", "isEmpty", "()Z"⟩ : MethodName) (head1 (Jvm.Cond.code (⟨"com/example/hornwork/hornwork/FibonacciHeap", "isEmpty", "()Z"⟩ : MethodName) prog_25_method_2_code 1 (some .boolean) :: ws) ({ frames := 0, cells := 0, slots := 0, locals := 0 } : Room)) (fun A9 U9 => A9 = #[(.ref a)] ∧ Z.Warmed39 U9.vm ∧ U9.heap = h0) (fun _ _ _ _ _ => True) (fun _ U9 o9 V9 => ∃ v9 L9, o9 = .returned v9 ∧ (Q4_0 Z a h0 n0) v9 V9.heap L9 ∧ FrameEnd U9 o9 V9 L9 ({ frames := 0, cells := 0, slots := 0, locals := 0 } : Room).cells ({ frames := 0, cells := 0, slots := 0, locals := 0 } : Room).slots) := by
  refine met_of (Q := (Q4_0 Z a h0 n0)) pn_4 ?_
  intro p e s m below meth c T0 C X0 e0
  have N0 := Fr.nil n0
  refine Go.cast (ef_4_0 m a) ?_
  refine waloadN C X0 f4_0 rfl rfl ?_
  refine wget C X0 (host := "") (Or.inl (tw_13 hw)) Via.refl e0 Fld_0 f4_1 ?_
  intro T1 X1 e1
  refine wiconst C X1 f4_4 (-1 : Int32) rfl ?_
  refine wicmp_ne C X1 f4_5 ?_ (fun q => absurd (by decide : ((-1 : Int32) = (-1 : Int32))) q)
  intro _
  refine wiconst C X1 f4_8 (1 : Int32) rfl ?_
  refine wgoto C X1 f4_9 ?_
  refine wiretN C X1 (t := .boolean) (by simp) f4_13 rfl (1 : Int32) (by decide) (by decide) (by decide) ?_
  rw [e1]
  exact ⟨rfl, N0, rfl⟩
theorem f4_12 : Dec prog_25_method_2_code 12 (.iconst 0) 1 13 := ⟨by decide +kernel, rfl⟩
theorem ef_4_1 (m : MethodId) (a : Addr) : entryFrame m #[(.ref a)] 1 = mkF m 0 #[.val (.ref a)] [] := by first | (simp [entryFrame, mkF, argsToLocals, Value.category]; done) | rfl
def Q4_1 (Z : State) (a : Addr) (x1 : Nat) (h0 : Heap) (n0 : Nat) (v9 : Option Value) (h9 : Heap) (L9 : List Loc) : Prop := v9 = some (.int (0 : Int32)) ∧ Fr n0 L9 ∧ h9 = h0
set_option maxRecDepth 65536 in
set_option maxHeartbeats 40000000 in
theorem rm4_1 (l : Launch) (Z : State) (a0 : Array Value) (hw : ∀ d ∈ tables_1, d.before a0 Z = true) (ws : List Jvm.Cond) (a : Addr) (x1 : Nat) (h0 : Heap) (n0 : Nat) (Z0 : n0 ≤ h0.size) (Fld_0 : Fld Z h0 a "com/example/hornwork/hornwork/FibonacciHeap" "least" "I" (.int (Int32.ofInt x1))) (h_x1 : (x1 < 3)) :
    MetFree l (⟨"com/example/hornwork/hornwork/FibonacciHeap", "isEmpty", "()Z"⟩ : MethodName) (head1 (Jvm.Cond.code (⟨"com/example/hornwork/hornwork/FibonacciHeap", "isEmpty", "()Z"⟩ : MethodName) prog_25_method_2_code 1 (some .boolean) :: ws) ({ frames := 0, cells := 0, slots := 0, locals := 0 } : Room)) (fun A9 U9 => A9 = #[(.ref a)] ∧ Z.Warmed39 U9.vm ∧ U9.heap = h0) (fun _ _ _ _ _ => True) (fun _ U9 o9 V9 => ∃ v9 L9, o9 = .returned v9 ∧ (Q4_1 Z a x1 h0 n0) v9 V9.heap L9 ∧ FrameEnd U9 o9 V9 L9 ({ frames := 0, cells := 0, slots := 0, locals := 0 } : Room).cells ({ frames := 0, cells := 0, slots := 0, locals := 0 } : Room).slots) := by
  refine met_of (Q := (Q4_1 Z a x1 h0 n0)) pn_4 ?_
  intro p e s m below meth c T0 C X0 e0
  have N0 := Fr.nil n0
  refine Go.cast (ef_4_1 m a) ?_
  refine waloadN C X0 f4_0 rfl rfl ?_
  refine wget C X0 (host := "") (Or.inl (tw_13 hw)) Via.refl e0 Fld_0 f4_1 ?_
  intro T1 X1 e1
  refine wiconst C X1 f4_4 (-1 : Int32) rfl ?_
  refine wicmp_ne C X1 f4_5 (fun q => absurd q (own_fm _ (by omega))) ?_
  intro _
  refine wiconst C X1 f4_12 (0 : Int32) rfl ?_
  refine wiretN C X1 (t := .boolean) (by simp) f4_13 rfl (0 : Int32) (by decide) (by decide) (by decide) ?_
  rw [e1]
  exact ⟨rfl, N0, rfl⟩
theorem own_n4 (z : Int32) : 0 ≤ ((z &&& (2147483647 : Int32)) % (4 : Int32)).toInt ∧ ((z &&& (2147483647 : Int32)) % (4 : Int32)).toInt ≤ 3 := by
  have h := c_and z 2147483647 (by decide)
  have h2 := c_irem (z &&& (2147483647 : Int32)) (4 : Int32) 4 (by decide)
  omega
theorem own_nz {n : Int32} (h : 0 ≤ n.toInt ∧ n.toInt ≤ 3) : n + (1 : Int32) ≠ 0 := fun q => by
  have h1 := c_iadd n (1 : Int32)
  rw [q, show (1 : Int32).toInt = 1 by decide, show (0 : Int32).toInt = 0 by decide] at h1
  omega
theorem own_mm {n : Int32} (z : Int32) (h : 0 ≤ n.toInt ∧ n.toInt ≤ 3) : 0 ≤ ((z &&& (2147483647 : Int32)) % (n + (1 : Int32))).toInt ∧ ((z &&& (2147483647 : Int32)) % (n + (1 : Int32))).toInt ≤ n.toInt := by
  have h0 := c_and z 2147483647 (by decide)
  have h1 := c_iadd n (1 : Int32)
  have r1 := rng32 (n + (1 : Int32))
  rw [show (1 : Int32).toInt = 1 by decide] at h1
  have e : (n + (1 : Int32)).toInt = n.toInt + 1 := by omega
  have h2 := c_irem (z &&& (2147483647 : Int32)) (n + (1 : Int32)) (n.toInt + 1) e
  have h3 := h2.1 h0.1
  have h4 := Int.emod_nonneg (z &&& (2147483647 : Int32)).toInt (show n.toInt + 1 ≠ 0 by omega)
  have h5 := Int.emod_lt_of_pos (z &&& (2147483647 : Int32)).toInt (show 0 < n.toInt + 1 by omega)
  rw [h3]; omega
theorem own_i0 {k : Int32} {n : Int} (z : Int32) (hz : z.toInt = n) (h : k.toInt = n) : k = z := Int32.toInt_inj.mp (h.trans hz.symm)
theorem own_s0 {k : Int32} (h : 0 ≤ k.toInt ∧ k.toInt ≤ (0 : Int32).toInt) : k = 0 := own_i0 (n := 0) 0 (by decide) (by have e : (0 : Int32).toInt = 0 := rfl; omega)
theorem own_s1 {k : Int32} (h : 0 ≤ k.toInt ∧ k.toInt ≤ (1 : Int32).toInt) : k = 0 ∨ k = 1 := by
  rw [show (1 : Int32).toInt = 1 by decide] at h
  rcases (by omega : k.toInt = 0 ∨ k.toInt = 1) with q | q
  · exact Or.inl (own_i0 0 (by decide) q)
  · exact Or.inr (own_i0 1 (by decide) q)
theorem own_s2 {k : Int32} (h : 0 ≤ k.toInt ∧ k.toInt ≤ (2 : Int32).toInt) : k = 0 ∨ k = 1 ∨ k = 2 := by
  rw [show (2 : Int32).toInt = 2 by decide] at h
  rcases (by omega : k.toInt = 0 ∨ k.toInt = 1 ∨ k.toInt = 2) with q | q | q
  · exact Or.inl (own_i0 0 (by decide) q)
  · exact Or.inr (Or.inl (own_i0 1 (by decide) q))
  · exact Or.inr (Or.inr (own_i0 2 (by decide) q))
theorem own_s3' {k : Int32} (h : 0 ≤ k.toInt ∧ k.toInt ≤ 3) : k = 0 ∨ k = 1 ∨ k = 2 ∨ k = 3 := by
  rcases (by omega : k.toInt = 0 ∨ k.toInt = 1 ∨ k.toInt = 2 ∨ k.toInt = 3) with q | q | q | q
  · exact Or.inl (own_i0 0 (by decide) q)
  · exact Or.inr (Or.inl (own_i0 1 (by decide) q))
  · exact Or.inr (Or.inr (Or.inl (own_i0 2 (by decide) q)))
  · exact Or.inr (Or.inr (Or.inr (own_i0 3 (by decide) q)))
theorem own_s3 {k : Int32} (h : 0 ≤ k.toInt ∧ k.toInt ≤ (3 : Int32).toInt) : k = 0 ∨ k = 1 ∨ k = 2 ∨ k = 3 := own_s3' h
theorem own_hK0 : ∀ i : Nat, i < 3 → FP.Core.DInt ((fun _ => 0 : Nat → Int) i) ((fun _ => 0 : Nat → UInt64) i) := fun _ _ => own_i2d 0
theorem f0_0 : Dec code 0 (.iload_n 0) 1 1 := ⟨by decide +kernel, rfl⟩
theorem f0_1 : Dec code 1 (.ldc 7) 2 3 := ⟨by decide +kernel, rfl⟩
theorem f0_3 : Dec code 3 (.iand) 1 4 := ⟨by decide +kernel, rfl⟩
theorem f0_4 : Dec code 4 (.iconst 4) 1 5 := ⟨by decide +kernel, rfl⟩
theorem f0_5 : Dec code 5 (.irem) 1 6 := ⟨by decide +kernel, rfl⟩
theorem f0_6 : Dec code 6 (.istore 5) 2 8 := ⟨by decide +kernel, rfl⟩
theorem f0_8 : Dec code 8 (.iload_n 1) 1 9 := ⟨by decide +kernel, rfl⟩
theorem f0_9 : Dec code 9 (.ldc 7) 2 11 := ⟨by decide +kernel, rfl⟩
theorem f0_11 : Dec code 11 (.iand) 1 12 := ⟨by decide +kernel, rfl⟩
theorem f0_12 : Dec code 12 (.iload 5) 2 14 := ⟨by decide +kernel, rfl⟩
theorem f0_14 : Dec code 14 (.iconst 1) 1 15 := ⟨by decide +kernel, rfl⟩
theorem f0_15 : Dec code 15 (.iadd) 1 16 := ⟨by decide +kernel, rfl⟩
theorem f0_16 : Dec code 16 (.irem) 1 17 := ⟨by decide +kernel, rfl⟩
theorem f0_17 : Dec code 17 (.istore 6) 2 19 := ⟨by decide +kernel, rfl⟩
theorem f0_19 : Dec code 19 (.new 8) 3 22 := ⟨by decide +kernel, rfl⟩
theorem f0_22 : Dec code 22 (.dup) 1 23 := ⟨by decide +kernel, rfl⟩
theorem f0_23 : Dec code 23 (.iconst 3) 1 24 := ⟨by decide +kernel, rfl⟩
theorem f0_24 : Dec code 24 (.invokespecial 10) 3 27 := ⟨by decide +kernel, rfl⟩
theorem f0_27 : Dec code 27 (.astore 7) 2 29 := ⟨by decide +kernel, rfl⟩
theorem f0_29 : Dec code 29 (.aload 7) 2 31 := ⟨by decide +kernel, rfl⟩
theorem f0_31 : Dec code 31 (.invokevirtual 13) 3 34 := ⟨by decide +kernel, rfl⟩
theorem f0_34 : Dec code 34 (.istore 8) 2 36 := ⟨by decide +kernel, rfl⟩
theorem f0_36 : Dec code 36 (.iload 5) 2 38 := ⟨by decide +kernel, rfl⟩
theorem f0_38 : Dec code 38 (.iconst 1) 1 39 := ⟨by decide +kernel, rfl⟩
theorem f0_39 : DecJ code 39 (.if_icmp .lt 11) 11 50 42 := ⟨by decide +kernel, by decide, by decide, rfl⟩
theorem f0_42 : Dec code 42 (.aload 7) 2 44 := ⟨by decide +kernel, rfl⟩
theorem f0_44 : Dec code 44 (.iconst 0) 1 45 := ⟨by decide +kernel, rfl⟩
theorem f0_45 : Dec code 45 (.iload_n 2) 1 46 := ⟨by decide +kernel, rfl⟩
theorem f0_46 : Dec code 46 (.i2d) 1 47 := ⟨by decide +kernel, rfl⟩
theorem f0_47 : Dec code 47 (.invokevirtual 17) 3 50 := ⟨by decide +kernel, rfl⟩
theorem f0_50 : Dec code 50 (.iload 5) 2 52 := ⟨by decide +kernel, rfl⟩
theorem f0_52 : Dec code 52 (.iconst 2) 1 53 := ⟨by decide +kernel, rfl⟩
theorem f0_53 : DecJ code 53 (.if_icmp .lt 11) 11 64 56 := ⟨by decide +kernel, by decide, by decide, rfl⟩
theorem f0_56 : Dec code 56 (.aload 7) 2 58 := ⟨by decide +kernel, rfl⟩
theorem f0_58 : Dec code 58 (.iconst 1) 1 59 := ⟨by decide +kernel, rfl⟩
theorem f0_59 : Dec code 59 (.iload_n 3) 1 60 := ⟨by decide +kernel, rfl⟩
theorem f0_60 : Dec code 60 (.i2d) 1 61 := ⟨by decide +kernel, rfl⟩
theorem f0_61 : Dec code 61 (.invokevirtual 17) 3 64 := ⟨by decide +kernel, rfl⟩
theorem f0_64 : Dec code 64 (.iload 5) 2 66 := ⟨by decide +kernel, rfl⟩
theorem f0_66 : Dec code 66 (.iconst 3) 1 67 := ⟨by decide +kernel, rfl⟩
theorem f0_67 : DecJ code 67 (.if_icmp .lt 12) 12 79 70 := ⟨by decide +kernel, by decide, by decide, rfl⟩
theorem f0_70 : Dec code 70 (.aload 7) 2 72 := ⟨by decide +kernel, rfl⟩
theorem f0_72 : Dec code 72 (.iconst 2) 1 73 := ⟨by decide +kernel, rfl⟩
theorem f0_73 : Dec code 73 (.iload 4) 2 75 := ⟨by decide +kernel, rfl⟩
theorem f0_75 : Dec code 75 (.i2d) 1 76 := ⟨by decide +kernel, rfl⟩
theorem f0_76 : Dec code 76 (.invokevirtual 17) 3 79 := ⟨by decide +kernel, rfl⟩
theorem f0_79 : Dec code 79 (.aload 7) 2 81 := ⟨by decide +kernel, rfl⟩
theorem f0_81 : Dec code 81 (.invokevirtual 13) 3 84 := ⟨by decide +kernel, rfl⟩
theorem f0_84 : Dec code 84 (.istore 9) 2 86 := ⟨by decide +kernel, rfl⟩
theorem f0_86 : Dec code 86 (.iload 6) 2 88 := ⟨by decide +kernel, rfl⟩
theorem f0_88 : Dec code 88 (.iconst 1) 1 89 := ⟨by decide +kernel, rfl⟩
theorem f0_89 : DecJ code 89 (.if_icmp .lt 9) 9 98 92 := ⟨by decide +kernel, by decide, by decide, rfl⟩
theorem f0_92 : Dec code 92 (.aload 7) 2 94 := ⟨by decide +kernel, rfl⟩
theorem f0_94 : Dec code 94 (.invokevirtual 21) 3 97 := ⟨by decide +kernel, rfl⟩
theorem f0_97 : Dec code 97 (.pop) 1 98 := ⟨by decide +kernel, rfl⟩
theorem f0_98 : Dec code 98 (.iload 6) 2 100 := ⟨by decide +kernel, rfl⟩
theorem f0_100 : Dec code 100 (.iconst 2) 1 101 := ⟨by decide +kernel, rfl⟩
theorem f0_101 : DecJ code 101 (.if_icmp .lt 9) 9 110 104 := ⟨by decide +kernel, by decide, by decide, rfl⟩
theorem f0_104 : Dec code 104 (.aload 7) 2 106 := ⟨by decide +kernel, rfl⟩
theorem f0_106 : Dec code 106 (.invokevirtual 21) 3 109 := ⟨by decide +kernel, rfl⟩
theorem f0_109 : Dec code 109 (.pop) 1 110 := ⟨by decide +kernel, rfl⟩
theorem f0_110 : Dec code 110 (.iload 6) 2 112 := ⟨by decide +kernel, rfl⟩
theorem f0_112 : Dec code 112 (.iconst 3) 1 113 := ⟨by decide +kernel, rfl⟩
theorem f0_113 : DecJ code 113 (.if_icmp .lt 9) 9 122 116 := ⟨by decide +kernel, by decide, by decide, rfl⟩
theorem f0_116 : Dec code 116 (.aload 7) 2 118 := ⟨by decide +kernel, rfl⟩
theorem f0_118 : Dec code 118 (.invokevirtual 21) 3 121 := ⟨by decide +kernel, rfl⟩
theorem f0_121 : Dec code 121 (.pop) 1 122 := ⟨by decide +kernel, rfl⟩
theorem f0_122 : Dec code 122 (.aload 7) 2 124 := ⟨by decide +kernel, rfl⟩
theorem f0_124 : Dec code 124 (.invokevirtual 13) 3 127 := ⟨by decide +kernel, rfl⟩
theorem f0_127 : Dec code 127 (.istore 10) 2 129 := ⟨by decide +kernel, rfl⟩
theorem f0_129 : Dec code 129 (.iload 8) 2 131 := ⟨by decide +kernel, rfl⟩
theorem f0_131 : DecJ code 131 (.ifCond .eq 39) 39 170 134 := ⟨by decide +kernel, by decide, by decide, rfl⟩
theorem f0_134 : Dec code 134 (.iload 9) 2 136 := ⟨by decide +kernel, rfl⟩
theorem f0_136 : Dec code 136 (.iload 5) 2 138 := ⟨by decide +kernel, rfl⟩
theorem f0_138 : DecJ code 138 (.ifCond .ne 7) 7 145 141 := ⟨by decide +kernel, by decide, by decide, rfl⟩
theorem f0_141 : Dec code 141 (.iconst 1) 1 142 := ⟨by decide +kernel, rfl⟩
theorem f0_142 : DecJ code 142 (.goto 4) 4 146 145 := ⟨by decide +kernel, by decide, by decide, rfl⟩
theorem f0_145 : Dec code 145 (.iconst 0) 1 146 := ⟨by decide +kernel, rfl⟩
theorem f0_146 : DecJ code 146 (.if_icmp .ne 24) 24 170 149 := ⟨by decide +kernel, by decide, by decide, rfl⟩
theorem f0_149 : Dec code 149 (.iload 10) 2 151 := ⟨by decide +kernel, rfl⟩
theorem f0_151 : Dec code 151 (.iload 6) 2 153 := ⟨by decide +kernel, rfl⟩
theorem f0_153 : Dec code 153 (.iload 5) 2 155 := ⟨by decide +kernel, rfl⟩
theorem f0_155 : DecJ code 155 (.if_icmp .ne 7) 7 162 158 := ⟨by decide +kernel, by decide, by decide, rfl⟩
theorem f0_158 : Dec code 158 (.iconst 1) 1 159 := ⟨by decide +kernel, rfl⟩
theorem f0_159 : DecJ code 159 (.goto 4) 4 163 162 := ⟨by decide +kernel, by decide, by decide, rfl⟩
theorem f0_162 : Dec code 162 (.iconst 0) 1 163 := ⟨by decide +kernel, rfl⟩
theorem f0_163 : DecJ code 163 (.if_icmp .ne 7) 7 170 166 := ⟨by decide +kernel, by decide, by decide, rfl⟩
theorem f0_166 : Dec code 166 (.iconst 1) 1 167 := ⟨by decide +kernel, rfl⟩
theorem f0_167 : DecJ code 167 (.goto 4) 4 171 170 := ⟨by decide +kernel, by decide, by decide, rfl⟩
theorem f0_171 : Dec code 171 (.ireturn) 1 172 := ⟨by decide +kernel, rfl⟩
theorem pn_0 : plainFor x = true := plainFor_of_name (show plainName "com/example/hornwork/hornwork/FibonacciHeapIsEmptyPinLaw" = true by first | (simp [plainName, overriddenIn]; done) | decide +kernel)
theorem ef_0 (m : MethodId) (y1 : Int32) (y2 : Int32) (q0 : Int32) (q1 : Int32) (q2 : Int32) : entryFrame m #[(.int y1), (.int y2), (.int q0), (.int q1), (.int q2)] maxLocals = mkF m 0 #[.val (.int y1), .val (.int y2), .val (.int q0), .val (.int q1), .val (.int q2), .unset, .unset, .unset, .unset, .unset, .unset] [] := by first | (simp [entryFrame, mkF, argsToLocals, Value.category, maxLocals]; done) | rfl
def Q0 (n0 : Nat) (v : Option Value) (h : Heap) (L : List Loc) : Prop := v = some (.int 1) ∧ Fr n0 L
set_option maxRecDepth 65536 in
set_option maxHeartbeats 40000000 in
theorem rm0 (l : Launch) (Z : State) (a0 : Array Value) (hw : ∀ d ∈ tables_1, d.before a0 Z = true) (ws : List Jvm.Cond) (y1 : Int32) (y2 : Int32) (q0 : Int32) (q1 : Int32) (q2 : Int32) (h0 : Heap) (n0 : Nat) (Z0 : n0 ≤ h0.size) :
    MetFree l x (head1 (Jvm.Cond.code x code maxLocals ret :: ws) room_1) (fun A9 U9 => A9 = #[(.int y1), (.int y2), (.int q0), (.int q1), (.int q2)] ∧ Z.Warmed39 U9.vm ∧ U9.heap = h0) (fun _ _ _ _ _ => True) (fun _ U9 o9 V9 => ∃ v9 L9, o9 = .returned v9 ∧ (Q0 n0) v9 V9.heap L9 ∧ FrameEnd U9 o9 V9 L9 room_1.cells room_1.slots) := by
  refine met_of (Q := (Q0 n0)) pn_0 ?_
  intro p e s m below meth c T0 C X0 e0
  have N0 := Fr.nil n0
  refine Go.cast (ef_0 m y1 y2 q0 q1 q2) ?_
  refine wiloadN C X0 f0_0 rfl ?_
  refine wldcI C X0 (tw_0 hw) f0_1 ?_
  refine wiand C X0 f0_3 ?_
  refine wiconst C X0 f0_4 (4 : Int32) rfl ?_
  refine wirem C X0 f0_5 (by decide) ?_
  have hnn := own_n4 y1
  generalize ((y1 &&& (2147483647 : Int32)) % (4 : Int32)) = nn at hnn ⊢
  refine wistore C X0 f0_6 #[.val (.int y1), .val (.int y2), .val (.int q0), .val (.int q1), .val (.int q2), .val (.int nn), .unset, .unset, .unset, .unset, .unset] rfl ?_
  refine wiloadN C X0 f0_8 rfl ?_
  refine wldcI C X0 (tw_0 hw) f0_9 ?_
  refine wiand C X0 f0_11 ?_
  refine wiload C X0 f0_12 rfl ?_
  refine wiconst C X0 f0_14 (1 : Int32) rfl ?_
  refine wiadd C X0 f0_15 ?_
  refine wirem C X0 f0_16 (own_nz hnn) ?_
  have hmm := own_mm y2 hnn
  generalize ((y2 &&& (2147483647 : Int32)) % (nn + (1 : Int32))) = mm at hmm ⊢
  refine wistore C X0 f0_17 #[.val (.int y1), .val (.int y2), .val (.int q0), .val (.int q1), .val (.int q2), .val (.int nn), .val (.int mm), .unset, .unset, .unset, .unset] rfl ?_
  rcases own_s3' hnn with rfl | rfl | rfl | rfl
  · refine wnew C X0 (tw_1 hw) (tw_2 hw) (tw_3 hw) e0 f0_19 (by decide) (by decide) ?_
    intro T1 h1 b1 g1 X1 e1 E1 A1 D1
    have sz1 : h0.size ≤ b1 := Nat.le_trans (Nat.le_refl h0.size) (Nat.le_of_eq g1.symm)
    have F1_rootOfDegree : Fld Z h1 b1 "com/example/hornwork/hornwork/FibonacciHeap" "rootOfDegree" "[I" .null := D1 (Or.inr (tw_12 hw)) (ty := (.array .int)) (by decide)
    have F1_least : Fld Z h1 b1 "com/example/hornwork/hornwork/FibonacciHeap" "least" "I" (.int (0 : Int32)) := D1 (Or.inl (tw_14 hw)) (ty := .int) (by decide)
    have F1_key : Fld Z h1 b1 "com/example/hornwork/hornwork/FibonacciHeap" "key" "[D" .null := D1 (Or.inr (tw_17 hw)) (ty := (.array .double)) (by decide)
    have F1_parent : Fld Z h1 b1 "com/example/hornwork/hornwork/FibonacciHeap" "parent" "[I" .null := D1 (Or.inr (tw_19 hw)) (ty := (.array .int)) (by decide)
    have F1_child : Fld Z h1 b1 "com/example/hornwork/hornwork/FibonacciHeap" "child" "[I" .null := D1 (Or.inr (tw_21 hw)) (ty := (.array .int)) (by decide)
    have F1_left : Fld Z h1 b1 "com/example/hornwork/hornwork/FibonacciHeap" "left" "[I" .null := D1 (Or.inr (tw_23 hw)) (ty := (.array .int)) (by decide)
    have F1_right : Fld Z h1 b1 "com/example/hornwork/hornwork/FibonacciHeap" "right" "[I" .null := D1 (Or.inr (tw_25 hw)) (ty := (.array .int)) (by decide)
    have F1_degree : Fld Z h1 b1 "com/example/hornwork/hornwork/FibonacciHeap" "degree" "[I" .null := D1 (Or.inr (tw_27 hw)) (ty := (.array .int)) (by decide)
    have F1_marked : Fld Z h1 b1 "com/example/hornwork/hornwork/FibonacciHeap" "marked" "[Z" .null := D1 (Or.inr (tw_30 hw)) (ty := (.array .boolean)) (by decide)
    have F1_contained : Fld Z h1 b1 "com/example/hornwork/hornwork/FibonacciHeap" "contained" "[Z" .null := D1 (Or.inr (tw_32 hw)) (ty := (.array .boolean)) (by decide)
    have F1_roots : Fld Z h1 b1 "com/example/hornwork/hornwork/FibonacciHeap" "roots" "[I" .null := D1 (Or.inr (tw_34 hw)) (ty := (.array .int)) (by decide)
    refine wdup C X1 f0_22 rfl ?_
    refine wiconst C X1 f0_23 (3 : Int32) rfl ?_
    refine wspecial C X1 (y := (⟨"com/example/hornwork/hornwork/FibonacciHeap", "<init>", "(I)V"⟩ : MethodName)) rfl (tw_4 hw) (tw_5 hw) (tw_6 hw) (tw_3 hw) rfl (by decide) (rm1 l Z a0 hw [] b1 (3 : Int32) h1 n0 (Nat.le_trans Z0 E1.1) A1 F1_key F1_parent F1_child F1_left F1_right F1_degree F1_marked F1_contained F1_roots F1_rootOfDegree F1_least (Nat.le_trans Z0 sz1) rfl) e1 f0_24 (a := b1) (argsL := [(.int (3 : Int32))]) (rest := [(.ref b1)]) rfl rfl (lenOf pd_0 rfl) rfl (W := 1) (Nat.le_of_eq rfl) (by decide) (by decide) (by decide) (by decide) ?_
    intro v2 T2 L2 X2 q2
    obtain ⟨ky_2, pa_2, ch_2, le_2, ri_2, de_2, mk_2, co_2, ro_2, rd_2, kky_2, kpa_2, kch_2, kle_2, kri_2, kde_2, kmk_2, kco_2, kro_2, krd_2, RD_2, rfl, Nq2, K2, G2_0, G2_1, G2_2, G2_3, G2_4, G2_5, G2_6, G2_7, G2_8, G2_9, G2_10, G2_11, G2_12, G2_13, G2_14, G2_15, G2_16, G2_17, G2_18, G2_19, G2_20, G2_21, G2_22, G2_23, G2_24, G2_25, G2_26, G2_27, G2_28, G2_29, G2_30, G2_31, G2_32, G2_33, G2_34, G2_35, G2_36, G2_37, G2_38, G2_39, G2_40, G2_41, G2_42, G2_43, G2_44, G2_45, G2_46, G2_47, G2_48, G2_49, G2_50, G2_51, G2_52, G2_53, G2_54, G2_55, G2_56, G2_57, G2_58, G2_59, G2_60, G2_61, G2_62, G2_63, G2_64, G2_65, G2_66, G2_67, G2_68, G2_69, G2_70, G2_71, G2_72, G2_73, G2_74, G2_75, G2_76, G2_77⟩ := q2
    have szG2_0 : h0.size ≤ ky_2 := Nat.le_trans (Nat.le_trans (Nat.le_refl h0.size) E1.1) G2_0
    have szG2_1 : h0.size ≤ pa_2 := Nat.le_trans (Nat.le_trans (Nat.le_refl h0.size) E1.1) G2_1
    have szG2_2 : h0.size ≤ ch_2 := Nat.le_trans (Nat.le_trans (Nat.le_refl h0.size) E1.1) G2_2
    have szG2_3 : h0.size ≤ le_2 := Nat.le_trans (Nat.le_trans (Nat.le_refl h0.size) E1.1) G2_3
    have szG2_4 : h0.size ≤ ri_2 := Nat.le_trans (Nat.le_trans (Nat.le_refl h0.size) E1.1) G2_4
    have szG2_5 : h0.size ≤ de_2 := Nat.le_trans (Nat.le_trans (Nat.le_refl h0.size) E1.1) G2_5
    have szG2_6 : h0.size ≤ mk_2 := Nat.le_trans (Nat.le_trans (Nat.le_refl h0.size) E1.1) G2_6
    have szG2_7 : h0.size ≤ co_2 := Nat.le_trans (Nat.le_trans (Nat.le_refl h0.size) E1.1) G2_7
    have szG2_8 : h0.size ≤ ro_2 := Nat.le_trans (Nat.le_trans (Nat.le_refl h0.size) E1.1) G2_8
    have szG2_9 : h0.size ≤ rd_2 := Nat.le_trans (Nat.le_trans (Nat.le_refl h0.size) E1.1) G2_9
    have N2 := Fr.app N0 Nq2
    show Go p e below s _ _ _ T2 (mkF m 27 #[.val (.int y1), .val (.int y2), .val (.int q0), .val (.int q1), .val (.int q2), .val (.int (0 : Int32)), .val (.int mm), .unset, .unset, .unset, .unset] [(.ref b1)])
    refine wastore C X2 f0_27 #[.val (.int y1), .val (.int y2), .val (.int q0), .val (.int q1), .val (.int q2), .val (.int (0 : Int32)), .val (.int mm), .val (.ref b1), .unset, .unset, .unset] rfl rfl ?_
    refine waload C X2 f0_29 rfl rfl ?_
    refine wvirtual C X2 (y := (⟨"com/example/hornwork/hornwork/FibonacciHeap", "isEmpty", "()Z"⟩ : MethodName)) (z := (⟨"com/example/hornwork/hornwork/FibonacciHeap", "isEmpty", "()Z"⟩ : MethodName)) (tw_39 hw) (tw_40 hw) (notFace_of_selects (args := #[]) (mvT C.2.1 (tw_42 hw))) (tw_42 hw) (tw_41 hw) (tw_43 hw) (tw_3 hw) (by decide) (rm4_0 l Z a0 hw [] b1 T2.heap n0 (Nat.le_trans (Nat.le_trans Z0 E1.1) K2.1) G2_66) rfl (a := b1) G2_55 f0_31 (argsL := []) (rest := []) rfl rfl (lenOf pd_5 rfl) rfl (W := 0) (Nat.le_of_eq rfl) (by decide) (by decide) (by decide) (by decide) ?_
    intro v3 T3 L3 X3 q3
    obtain ⟨rfl, Nq3, eq3⟩ := q3
    have N3 := Fr.app N2 Nq3
    show Go p e below s _ _ _ T3 (mkF m 34 #[.val (.int y1), .val (.int y2), .val (.int q0), .val (.int q1), .val (.int q2), .val (.int (0 : Int32)), .val (.int mm), .val (.ref b1), .unset, .unset, .unset] [(.int (1 : Int32))])
    refine wistore C X3 f0_34 #[.val (.int y1), .val (.int y2), .val (.int q0), .val (.int q1), .val (.int q2), .val (.int (0 : Int32)), .val (.int mm), .val (.ref b1), .val (.int (1 : Int32)), .unset, .unset] rfl ?_
    refine wiload C X3 f0_36 rfl ?_
    refine wiconst C X3 f0_38 (1 : Int32) rfl ?_
    refine wicmp_lt C X3 f0_39 ?_ (fun q => absurd (by decide : ((0 : Int32) < (1 : Int32))) q)
    intro _
    refine wiload C X3 f0_50 rfl ?_
    refine wiconst C X3 f0_52 (2 : Int32) rfl ?_
    refine wicmp_lt C X3 f0_53 ?_ (fun q => absurd (by decide : ((0 : Int32) < (2 : Int32))) q)
    intro _
    refine wiload C X3 f0_64 rfl ?_
    refine wiconst C X3 f0_66 (3 : Int32) rfl ?_
    refine wicmp_lt C X3 f0_67 ?_ (fun q => absurd (by decide : ((0 : Int32) < (3 : Int32))) q)
    intro _
    refine waload C X3 f0_79 rfl rfl ?_
    refine wvirtual C X3 (y := (⟨"com/example/hornwork/hornwork/FibonacciHeap", "isEmpty", "()Z"⟩ : MethodName)) (z := (⟨"com/example/hornwork/hornwork/FibonacciHeap", "isEmpty", "()Z"⟩ : MethodName)) (tw_39 hw) (tw_40 hw) (notFace_of_selects (args := #[]) (mvT C.2.1 (tw_42 hw))) (tw_42 hw) (tw_41 hw) (tw_43 hw) (tw_3 hw) (by decide) (rm4_0 l Z a0 hw [] b1 T2.heap n0 (Nat.le_trans (Nat.le_trans Z0 E1.1) K2.1) G2_66) eq3 (a := b1) G2_55 f0_81 (argsL := []) (rest := []) rfl rfl (lenOf pd_5 rfl) rfl (W := 0) (Nat.le_of_eq rfl) (by decide) (by decide) (by decide) (by decide) ?_
    intro v4 T4 L4 X4 q4
    obtain ⟨rfl, Nq4, eq4⟩ := q4
    have N4 := Fr.app N3 Nq4
    show Go p e below s _ _ _ T4 (mkF m 84 #[.val (.int y1), .val (.int y2), .val (.int q0), .val (.int q1), .val (.int q2), .val (.int (0 : Int32)), .val (.int mm), .val (.ref b1), .val (.int (1 : Int32)), .unset, .unset] [(.int (1 : Int32))])
    refine wistore C X4 f0_84 #[.val (.int y1), .val (.int y2), .val (.int q0), .val (.int q1), .val (.int q2), .val (.int (0 : Int32)), .val (.int mm), .val (.ref b1), .val (.int (1 : Int32)), .val (.int (1 : Int32)), .unset] rfl ?_
    obtain rfl := own_s0 hmm
    refine wiload C X4 f0_86 rfl ?_
    refine wiconst C X4 f0_88 (1 : Int32) rfl ?_
    refine wicmp_lt C X4 f0_89 ?_ (fun q => absurd (by decide : ((0 : Int32) < (1 : Int32))) q)
    intro _
    refine wiload C X4 f0_98 rfl ?_
    refine wiconst C X4 f0_100 (2 : Int32) rfl ?_
    refine wicmp_lt C X4 f0_101 ?_ (fun q => absurd (by decide : ((0 : Int32) < (2 : Int32))) q)
    intro _
    refine wiload C X4 f0_110 rfl ?_
    refine wiconst C X4 f0_112 (3 : Int32) rfl ?_
    refine wicmp_lt C X4 f0_113 ?_ (fun q => absurd (by decide : ((0 : Int32) < (3 : Int32))) q)
    intro _
    refine waload C X4 f0_122 rfl rfl ?_
    refine wvirtual C X4 (y := (⟨"com/example/hornwork/hornwork/FibonacciHeap", "isEmpty", "()Z"⟩ : MethodName)) (z := (⟨"com/example/hornwork/hornwork/FibonacciHeap", "isEmpty", "()Z"⟩ : MethodName)) (tw_39 hw) (tw_40 hw) (notFace_of_selects (args := #[]) (mvT C.2.1 (tw_42 hw))) (tw_42 hw) (tw_41 hw) (tw_43 hw) (tw_3 hw) (by decide) (rm4_0 l Z a0 hw [] b1 T2.heap n0 (Nat.le_trans (Nat.le_trans Z0 E1.1) K2.1) G2_66) eq4 (a := b1) G2_55 f0_124 (argsL := []) (rest := []) rfl rfl (lenOf pd_5 rfl) rfl (W := 0) (Nat.le_of_eq rfl) (by decide) (by decide) (by decide) (by decide) ?_
    intro v5 T5 L5 X5 q5
    obtain ⟨rfl, Nq5, eq5⟩ := q5
    have N5 := Fr.app N4 Nq5
    show Go p e below s _ _ _ T5 (mkF m 127 #[.val (.int y1), .val (.int y2), .val (.int q0), .val (.int q1), .val (.int q2), .val (.int (0 : Int32)), .val (.int (0 : Int32)), .val (.ref b1), .val (.int (1 : Int32)), .val (.int (1 : Int32)), .unset] [(.int (1 : Int32))])
    refine wistore C X5 f0_127 #[.val (.int y1), .val (.int y2), .val (.int q0), .val (.int q1), .val (.int q2), .val (.int (0 : Int32)), .val (.int (0 : Int32)), .val (.ref b1), .val (.int (1 : Int32)), .val (.int (1 : Int32)), .val (.int (1 : Int32))] rfl ?_
    refine wiload C X5 f0_129 rfl ?_
    refine wif_eq C X5 f0_131 (fun q => absurd q (by decide : ¬ ((1 : Int32) = (0 : Int32)))) ?_
    intro _
    refine wiload C X5 f0_134 rfl ?_
    refine wiload C X5 f0_136 rfl ?_
    refine wif_ne C X5 f0_138 ?_ (fun q => absurd (by decide : ((0 : Int32) = (0 : Int32))) q)
    intro _
    refine wiconst C X5 f0_141 (1 : Int32) rfl ?_
    refine wgoto C X5 f0_142 ?_
    refine wicmp_ne C X5 f0_146 ?_ (fun q => absurd (by decide : ((1 : Int32) = (1 : Int32))) q)
    intro _
    refine wiload C X5 f0_149 rfl ?_
    refine wiload C X5 f0_151 rfl ?_
    refine wiload C X5 f0_153 rfl ?_
    refine wicmp_ne C X5 f0_155 ?_ (fun q => absurd (by decide : ((0 : Int32) = (0 : Int32))) q)
    intro _
    refine wiconst C X5 f0_158 (1 : Int32) rfl ?_
    refine wgoto C X5 f0_159 ?_
    refine wicmp_ne C X5 f0_163 ?_ (fun q => absurd (by decide : ((1 : Int32) = (1 : Int32))) q)
    intro _
    refine wiconst C X5 f0_166 (1 : Int32) rfl ?_
    refine wgoto C X5 f0_167 ?_
    refine wiretN C X5 (t := .boolean) (by simp) f0_171 rfl (1 : Int32) (by decide) (by decide) (by decide) ?_
    rw [eq5]
    exact ⟨rfl, N5⟩
  · refine wnew C X0 (tw_1 hw) (tw_2 hw) (tw_3 hw) e0 f0_19 (by decide) (by decide) ?_
    intro T6 h6 b6 g6 X6 e6 E6 A6 D6
    have sz6 : h0.size ≤ b6 := Nat.le_trans (Nat.le_refl h0.size) (Nat.le_of_eq g6.symm)
    have F6_rootOfDegree : Fld Z h6 b6 "com/example/hornwork/hornwork/FibonacciHeap" "rootOfDegree" "[I" .null := D6 (Or.inr (tw_12 hw)) (ty := (.array .int)) (by decide)
    have F6_least : Fld Z h6 b6 "com/example/hornwork/hornwork/FibonacciHeap" "least" "I" (.int (0 : Int32)) := D6 (Or.inl (tw_14 hw)) (ty := .int) (by decide)
    have F6_key : Fld Z h6 b6 "com/example/hornwork/hornwork/FibonacciHeap" "key" "[D" .null := D6 (Or.inr (tw_17 hw)) (ty := (.array .double)) (by decide)
    have F6_parent : Fld Z h6 b6 "com/example/hornwork/hornwork/FibonacciHeap" "parent" "[I" .null := D6 (Or.inr (tw_19 hw)) (ty := (.array .int)) (by decide)
    have F6_child : Fld Z h6 b6 "com/example/hornwork/hornwork/FibonacciHeap" "child" "[I" .null := D6 (Or.inr (tw_21 hw)) (ty := (.array .int)) (by decide)
    have F6_left : Fld Z h6 b6 "com/example/hornwork/hornwork/FibonacciHeap" "left" "[I" .null := D6 (Or.inr (tw_23 hw)) (ty := (.array .int)) (by decide)
    have F6_right : Fld Z h6 b6 "com/example/hornwork/hornwork/FibonacciHeap" "right" "[I" .null := D6 (Or.inr (tw_25 hw)) (ty := (.array .int)) (by decide)
    have F6_degree : Fld Z h6 b6 "com/example/hornwork/hornwork/FibonacciHeap" "degree" "[I" .null := D6 (Or.inr (tw_27 hw)) (ty := (.array .int)) (by decide)
    have F6_marked : Fld Z h6 b6 "com/example/hornwork/hornwork/FibonacciHeap" "marked" "[Z" .null := D6 (Or.inr (tw_30 hw)) (ty := (.array .boolean)) (by decide)
    have F6_contained : Fld Z h6 b6 "com/example/hornwork/hornwork/FibonacciHeap" "contained" "[Z" .null := D6 (Or.inr (tw_32 hw)) (ty := (.array .boolean)) (by decide)
    have F6_roots : Fld Z h6 b6 "com/example/hornwork/hornwork/FibonacciHeap" "roots" "[I" .null := D6 (Or.inr (tw_34 hw)) (ty := (.array .int)) (by decide)
    refine wdup C X6 f0_22 rfl ?_
    refine wiconst C X6 f0_23 (3 : Int32) rfl ?_
    refine wspecial C X6 (y := (⟨"com/example/hornwork/hornwork/FibonacciHeap", "<init>", "(I)V"⟩ : MethodName)) rfl (tw_4 hw) (tw_5 hw) (tw_6 hw) (tw_3 hw) rfl (by decide) (rm1 l Z a0 hw [] b6 (3 : Int32) h6 n0 (Nat.le_trans Z0 E6.1) A6 F6_key F6_parent F6_child F6_left F6_right F6_degree F6_marked F6_contained F6_roots F6_rootOfDegree F6_least (Nat.le_trans Z0 sz6) rfl) e6 f0_24 (a := b6) (argsL := [(.int (3 : Int32))]) (rest := [(.ref b6)]) rfl rfl (lenOf pd_0 rfl) rfl (W := 1) (Nat.le_of_eq rfl) (by decide) (by decide) (by decide) (by decide) ?_
    intro v7 T7 L7 X7 q7
    obtain ⟨ky_7, pa_7, ch_7, le_7, ri_7, de_7, mk_7, co_7, ro_7, rd_7, kky_7, kpa_7, kch_7, kle_7, kri_7, kde_7, kmk_7, kco_7, kro_7, krd_7, RD_7, rfl, Nq7, K7, G7_0, G7_1, G7_2, G7_3, G7_4, G7_5, G7_6, G7_7, G7_8, G7_9, G7_10, G7_11, G7_12, G7_13, G7_14, G7_15, G7_16, G7_17, G7_18, G7_19, G7_20, G7_21, G7_22, G7_23, G7_24, G7_25, G7_26, G7_27, G7_28, G7_29, G7_30, G7_31, G7_32, G7_33, G7_34, G7_35, G7_36, G7_37, G7_38, G7_39, G7_40, G7_41, G7_42, G7_43, G7_44, G7_45, G7_46, G7_47, G7_48, G7_49, G7_50, G7_51, G7_52, G7_53, G7_54, G7_55, G7_56, G7_57, G7_58, G7_59, G7_60, G7_61, G7_62, G7_63, G7_64, G7_65, G7_66, G7_67, G7_68, G7_69, G7_70, G7_71, G7_72, G7_73, G7_74, G7_75, G7_76, G7_77⟩ := q7
    have szG7_0 : h0.size ≤ ky_7 := Nat.le_trans (Nat.le_trans (Nat.le_refl h0.size) E6.1) G7_0
    have szG7_1 : h0.size ≤ pa_7 := Nat.le_trans (Nat.le_trans (Nat.le_refl h0.size) E6.1) G7_1
    have szG7_2 : h0.size ≤ ch_7 := Nat.le_trans (Nat.le_trans (Nat.le_refl h0.size) E6.1) G7_2
    have szG7_3 : h0.size ≤ le_7 := Nat.le_trans (Nat.le_trans (Nat.le_refl h0.size) E6.1) G7_3
    have szG7_4 : h0.size ≤ ri_7 := Nat.le_trans (Nat.le_trans (Nat.le_refl h0.size) E6.1) G7_4
    have szG7_5 : h0.size ≤ de_7 := Nat.le_trans (Nat.le_trans (Nat.le_refl h0.size) E6.1) G7_5
    have szG7_6 : h0.size ≤ mk_7 := Nat.le_trans (Nat.le_trans (Nat.le_refl h0.size) E6.1) G7_6
    have szG7_7 : h0.size ≤ co_7 := Nat.le_trans (Nat.le_trans (Nat.le_refl h0.size) E6.1) G7_7
    have szG7_8 : h0.size ≤ ro_7 := Nat.le_trans (Nat.le_trans (Nat.le_refl h0.size) E6.1) G7_8
    have szG7_9 : h0.size ≤ rd_7 := Nat.le_trans (Nat.le_trans (Nat.le_refl h0.size) E6.1) G7_9
    have N7 := Fr.app N0 Nq7
    show Go p e below s _ _ _ T7 (mkF m 27 #[.val (.int y1), .val (.int y2), .val (.int q0), .val (.int q1), .val (.int q2), .val (.int (1 : Int32)), .val (.int mm), .unset, .unset, .unset, .unset] [(.ref b6)])
    refine wastore C X7 f0_27 #[.val (.int y1), .val (.int y2), .val (.int q0), .val (.int q1), .val (.int q2), .val (.int (1 : Int32)), .val (.int mm), .val (.ref b6), .unset, .unset, .unset] rfl rfl ?_
    refine waload C X7 f0_29 rfl rfl ?_
    refine wvirtual C X7 (y := (⟨"com/example/hornwork/hornwork/FibonacciHeap", "isEmpty", "()Z"⟩ : MethodName)) (z := (⟨"com/example/hornwork/hornwork/FibonacciHeap", "isEmpty", "()Z"⟩ : MethodName)) (tw_39 hw) (tw_40 hw) (notFace_of_selects (args := #[]) (mvT C.2.1 (tw_42 hw))) (tw_42 hw) (tw_41 hw) (tw_43 hw) (tw_3 hw) (by decide) (rm4_0 l Z a0 hw [] b6 T7.heap n0 (Nat.le_trans (Nat.le_trans Z0 E6.1) K7.1) G7_66) rfl (a := b6) G7_55 f0_31 (argsL := []) (rest := []) rfl rfl (lenOf pd_5 rfl) rfl (W := 0) (Nat.le_of_eq rfl) (by decide) (by decide) (by decide) (by decide) ?_
    intro v8 T8 L8 X8 q8
    obtain ⟨rfl, Nq8, eq8⟩ := q8
    have N8 := Fr.app N7 Nq8
    show Go p e below s _ _ _ T8 (mkF m 34 #[.val (.int y1), .val (.int y2), .val (.int q0), .val (.int q1), .val (.int q2), .val (.int (1 : Int32)), .val (.int mm), .val (.ref b6), .unset, .unset, .unset] [(.int (1 : Int32))])
    refine wistore C X8 f0_34 #[.val (.int y1), .val (.int y2), .val (.int q0), .val (.int q1), .val (.int q2), .val (.int (1 : Int32)), .val (.int mm), .val (.ref b6), .val (.int (1 : Int32)), .unset, .unset] rfl ?_
    refine wiload C X8 f0_36 rfl ?_
    refine wiconst C X8 f0_38 (1 : Int32) rfl ?_
    refine wicmp_lt C X8 f0_39 (fun q => absurd q (by decide : ¬ ((1 : Int32) < (1 : Int32)))) ?_
    intro _
    refine waload C X8 f0_42 rfl rfl ?_
    refine wiconst C X8 f0_44 (0 : Int32) rfl ?_
    refine own_foldI (z := (Int32.ofInt 0)) (by decide) ?_
    refine wiloadN C X8 f0_45 rfl ?_
    refine wi2d C X8 f0_46 ?_
    have ne10 : b6 ≠ ky_7 := (Nat.ne_of_lt (Nat.lt_of_lt_of_le A6.lt G7_0))
    have ne11 : b6 ≠ pa_7 := (Nat.ne_of_lt (Nat.lt_of_lt_of_le A6.lt G7_1))
    have ne12 : b6 ≠ ch_7 := (Nat.ne_of_lt (Nat.lt_of_lt_of_le A6.lt G7_2))
    have ne13 : b6 ≠ de_7 := (Nat.ne_of_lt (Nat.lt_of_lt_of_le A6.lt G7_5))
    have ne14 : b6 ≠ mk_7 := (Nat.ne_of_lt (Nat.lt_of_lt_of_le A6.lt G7_6))
    have ne15 : b6 ≠ co_7 := (Nat.ne_of_lt (Nat.lt_of_lt_of_le A6.lt G7_7))
    have ne16 : b6 ≠ le_7 := (Nat.ne_of_lt (Nat.lt_of_lt_of_le A6.lt G7_3))
    have ne17 : b6 ≠ ri_7 := (Nat.ne_of_lt (Nat.lt_of_lt_of_le A6.lt G7_4))
    refine wvirtual C X8 (y := (⟨"com/example/hornwork/hornwork/FibonacciHeap", "insert", "(ID)V"⟩ : MethodName)) (z := (⟨"com/example/hornwork/hornwork/FibonacciHeap", "insert", "(ID)V"⟩ : MethodName)) (tw_44 hw) (tw_45 hw) (notFace_of_selects (args := #[]) (mvT C.2.1 (tw_47 hw))) (tw_47 hw) (tw_46 hw) (tw_48 hw) (tw_3 hw) (by decide) (rm5_0 l Z a0 hw [] b6 0 (FP.i2d q0) ky_7 pa_7 ch_7 le_7 ri_7 de_7 mk_7 co_7 ro_7 rd_7 kky_7 kpa_7 kch_7 kde_7 kmk_7 kco_7 kri_7 kle_7 (fun _ => 0) (fun _ => 0) (fun _ => 0) (fun _ => 0) (fun _ => 0) (fun _ => 0) (fun _ => 0) (fun _ => 0) T7.heap n0 (Nat.le_trans (Nat.le_trans Z0 E6.1) K7.1) G7_55 G7_56 G7_57 G7_58 G7_59 G7_60 G7_61 G7_62 G7_63 G7_64 G7_65 G7_66 G7_67 G7_68 G7_69 G7_72 G7_73 G7_74 G7_71 G7_70 (Nat.le_trans Z0 sz6) (Nat.le_trans Z0 szG7_0) (Nat.le_trans Z0 szG7_1) (Nat.le_trans Z0 szG7_2) (Nat.le_trans Z0 szG7_5) (Nat.le_trans Z0 szG7_6) (Nat.le_trans Z0 szG7_7) (Nat.le_trans Z0 szG7_4) (Nat.le_trans Z0 szG7_3) (by omega) ne10 G7_10 ne11 (Ne.symm G7_11) (Ne.symm G7_19) ne12 (Ne.symm G7_14) (Ne.symm G7_22) G7_29 ne13 G7_15 (Ne.symm G7_23) G7_30 G7_45 ne14 (Ne.symm G7_16) (Ne.symm G7_24) G7_31 (Ne.symm G7_46) (Ne.symm G7_49) ne15 G7_13 G7_21 G7_28 (Ne.symm G7_40) (Ne.symm G7_41) (Ne.symm G7_42) G7_12 (Ne.symm G7_20) G7_27 (Ne.symm G7_35) G7_36 (Ne.symm G7_37) ne16 G7_34 ne17) eq8 (a := b6) G7_55 f0_47 (argsL := [(.int (Int32.ofInt 0)), (.double (FP.i2d q0))]) (rest := []) rfl rfl (lenOf pd_6 rfl) rfl (W := 0) (Nat.le_of_eq rfl) (by decide) (by decide) (by decide) (by decide) ?_
    intro v9 T9 L9 X9 q9
    obtain ⟨rfl, Nq9, K9, G9_0, G9_1, G9_2, G9_3, G9_4, G9_5, G9_6, G9_7, G9_8, G9_9, G9_10, G9_11, G9_12, G9_13, G9_14, G9_15, G9_16, G9_17, G9_18, G9_19⟩ := q9
    have q18 := (Nat.le_trans (Nat.le_trans (Nat.le_refl h0.size) E6.1) K7.1)
    have N9 := Fr.app N8 Nq9
    show Go p e below s _ _ _ T9 (mkF m 50 #[.val (.int y1), .val (.int y2), .val (.int q0), .val (.int q1), .val (.int q2), .val (.int (1 : Int32)), .val (.int mm), .val (.ref b6), .val (.int (1 : Int32)), .unset, .unset] [])
    refine wiload C X9 f0_50 rfl ?_
    refine wiconst C X9 f0_52 (2 : Int32) rfl ?_
    refine wicmp_lt C X9 f0_53 ?_ (fun q => absurd (by decide : ((1 : Int32) < (2 : Int32))) q)
    intro _
    refine wiload C X9 f0_64 rfl ?_
    refine wiconst C X9 f0_66 (3 : Int32) rfl ?_
    refine wicmp_lt C X9 f0_67 ?_ (fun q => absurd (by decide : ((1 : Int32) < (3 : Int32))) q)
    intro _
    refine waload C X9 f0_79 rfl rfl ?_
    have q20 := (Nat.le_trans (Nat.le_trans (Nat.le_trans Z0 E6.1) K7.1) K9.1)
    refine wvirtual C X9 (y := (⟨"com/example/hornwork/hornwork/FibonacciHeap", "isEmpty", "()Z"⟩ : MethodName)) (z := (⟨"com/example/hornwork/hornwork/FibonacciHeap", "isEmpty", "()Z"⟩ : MethodName)) (tw_39 hw) (tw_40 hw) (notFace_of_selects (args := #[]) (mvT C.2.1 (tw_42 hw))) (tw_42 hw) (tw_41 hw) (tw_43 hw) (tw_3 hw) (by decide) (rm4_1 l Z a0 hw [] b6 0 T9.heap n0 q20 G9_11 (by omega)) rfl (a := b6) G9_0 f0_81 (argsL := []) (rest := []) rfl rfl (lenOf pd_5 rfl) rfl (W := 0) (Nat.le_of_eq rfl) (by decide) (by decide) (by decide) (by decide) ?_
    intro v19 T19 L19 X19 q19
    obtain ⟨rfl, Nq19, eq19⟩ := q19
    have N19 := Fr.app N9 Nq19
    show Go p e below s _ _ _ T19 (mkF m 84 #[.val (.int y1), .val (.int y2), .val (.int q0), .val (.int q1), .val (.int q2), .val (.int (1 : Int32)), .val (.int mm), .val (.ref b6), .val (.int (1 : Int32)), .unset, .unset] [(.int (0 : Int32))])
    refine wistore C X19 f0_84 #[.val (.int y1), .val (.int y2), .val (.int q0), .val (.int q1), .val (.int q2), .val (.int (1 : Int32)), .val (.int mm), .val (.ref b6), .val (.int (1 : Int32)), .val (.int (0 : Int32)), .unset] rfl ?_
    rcases own_s1 hmm with rfl | rfl
    · refine wiload C X19 f0_86 rfl ?_
      refine wiconst C X19 f0_88 (1 : Int32) rfl ?_
      refine wicmp_lt C X19 f0_89 ?_ (fun q => absurd (by decide : ((0 : Int32) < (1 : Int32))) q)
      intro _
      refine wiload C X19 f0_98 rfl ?_
      refine wiconst C X19 f0_100 (2 : Int32) rfl ?_
      refine wicmp_lt C X19 f0_101 ?_ (fun q => absurd (by decide : ((0 : Int32) < (2 : Int32))) q)
      intro _
      refine wiload C X19 f0_110 rfl ?_
      refine wiconst C X19 f0_112 (3 : Int32) rfl ?_
      refine wicmp_lt C X19 f0_113 ?_ (fun q => absurd (by decide : ((0 : Int32) < (3 : Int32))) q)
      intro _
      refine waload C X19 f0_122 rfl rfl ?_
      refine wvirtual C X19 (y := (⟨"com/example/hornwork/hornwork/FibonacciHeap", "isEmpty", "()Z"⟩ : MethodName)) (z := (⟨"com/example/hornwork/hornwork/FibonacciHeap", "isEmpty", "()Z"⟩ : MethodName)) (tw_39 hw) (tw_40 hw) (notFace_of_selects (args := #[]) (mvT C.2.1 (tw_42 hw))) (tw_42 hw) (tw_41 hw) (tw_43 hw) (tw_3 hw) (by decide) (rm4_1 l Z a0 hw [] b6 0 T9.heap n0 q20 G9_11 (by omega)) eq19 (a := b6) G9_0 f0_124 (argsL := []) (rest := []) rfl rfl (lenOf pd_5 rfl) rfl (W := 0) (Nat.le_of_eq rfl) (by decide) (by decide) (by decide) (by decide) ?_
      intro v21 T21 L21 X21 q21
      obtain ⟨rfl, Nq21, eq21⟩ := q21
      have N21 := Fr.app N19 Nq21
      show Go p e below s _ _ _ T21 (mkF m 127 #[.val (.int y1), .val (.int y2), .val (.int q0), .val (.int q1), .val (.int q2), .val (.int (1 : Int32)), .val (.int (0 : Int32)), .val (.ref b6), .val (.int (1 : Int32)), .val (.int (0 : Int32)), .unset] [(.int (0 : Int32))])
      refine wistore C X21 f0_127 #[.val (.int y1), .val (.int y2), .val (.int q0), .val (.int q1), .val (.int q2), .val (.int (1 : Int32)), .val (.int (0 : Int32)), .val (.ref b6), .val (.int (1 : Int32)), .val (.int (0 : Int32)), .val (.int (0 : Int32))] rfl ?_
      refine wiload C X21 f0_129 rfl ?_
      refine wif_eq C X21 f0_131 (fun q => absurd q (by decide : ¬ ((1 : Int32) = (0 : Int32)))) ?_
      intro _
      refine wiload C X21 f0_134 rfl ?_
      refine wiload C X21 f0_136 rfl ?_
      refine wif_ne C X21 f0_138 (fun q => absurd q (by decide : ¬ ((1 : Int32) = (0 : Int32)))) ?_
      intro _
      refine wiconst C X21 f0_145 (0 : Int32) rfl ?_
      refine wicmp_ne C X21 f0_146 ?_ (fun q => absurd (by decide : ((0 : Int32) = (0 : Int32))) q)
      intro _
      refine wiload C X21 f0_149 rfl ?_
      refine wiload C X21 f0_151 rfl ?_
      refine wiload C X21 f0_153 rfl ?_
      refine wicmp_ne C X21 f0_155 (fun q => absurd q (by decide : ¬ ((0 : Int32) = (1 : Int32)))) ?_
      intro _
      refine wiconst C X21 f0_162 (0 : Int32) rfl ?_
      refine wicmp_ne C X21 f0_163 ?_ (fun q => absurd (by decide : ((0 : Int32) = (0 : Int32))) q)
      intro _
      refine wiconst C X21 f0_166 (1 : Int32) rfl ?_
      refine wgoto C X21 f0_167 ?_
      refine wiretN C X21 (t := .boolean) (by simp) f0_171 rfl (1 : Int32) (by decide) (by decide) (by decide) ?_
      rw [eq21]
      exact ⟨rfl, N21⟩
    · refine wiload C X19 f0_86 rfl ?_
      refine wiconst C X19 f0_88 (1 : Int32) rfl ?_
      refine wicmp_lt C X19 f0_89 (fun q => absurd q (by decide : ¬ ((1 : Int32) < (1 : Int32)))) ?_
      intro _
      refine waload C X19 f0_92 rfl rfl ?_
      refine wvirtual C X19 (y := (⟨"com/example/hornwork/hornwork/FibonacciHeap", "removeLeast", "()I"⟩ : MethodName)) (z := (⟨"com/example/hornwork/hornwork/FibonacciHeap", "removeLeast", "()I"⟩ : MethodName)) (tw_61 hw) (tw_62 hw) (notFace_of_selects (args := #[]) (mvT C.2.1 (tw_64 hw))) (tw_64 hw) (tw_63 hw) (tw_65 hw) (tw_3 hw) (by decide) (rm9_A l Z a0 hw [] b6 ky_7 pa_7 ch_7 le_7 ri_7 de_7 mk_7 co_7 ro_7 rd_7 kri_7 kch_7 kco_7 (own_upd (fun _ => 0) 0 0) (own_upd (fun _ => 0) 0 (-1)) (own_upd (fun _ => 0) 0 1) 0 T9.heap n0 q20 G9_0 G9_1 G9_2 G9_3 G9_4 G9_5 G9_6 G9_7 G9_8 G9_9 G9_10 G9_11 G9_18 G9_14 G9_17 (Nat.le_trans Z0 sz6) (Nat.le_trans Z0 szG7_4) (Nat.le_trans Z0 szG7_2) (Nat.le_trans Z0 szG7_7) (by omega) (own_us _ _ _) (own_us _ _ _) ne15 ne12 G7_31) eq19 (a := b6) G9_0 f0_94 (argsL := []) (rest := []) rfl rfl (lenOf pd_7 rfl) rfl (W := 0) (Nat.le_of_eq rfl) (by decide) (by decide) (by decide) (by decide) ?_
      intro v22 T22 L22 X22 q22
      obtain ⟨rfl, Nq22, K22, G22_0, G22_1, G22_2, G22_3, G22_4, G22_5, G22_6, G22_7, G22_8, G22_9, G22_10, G22_11, G22_12, G22_13⟩ := q22
      have N22 := Fr.app N19 Nq22
      show Go p e below s _ _ _ T22 (mkF m 97 #[.val (.int y1), .val (.int y2), .val (.int q0), .val (.int q1), .val (.int q2), .val (.int (1 : Int32)), .val (.int (1 : Int32)), .val (.ref b6), .val (.int (1 : Int32)), .val (.int (0 : Int32)), .unset] [(.int (Int32.ofInt 0))])
      refine wpop C X22 f0_97 rfl ?_
      refine wiload C X22 f0_98 rfl ?_
      refine wiconst C X22 f0_100 (2 : Int32) rfl ?_
      refine wicmp_lt C X22 f0_101 ?_ (fun q => absurd (by decide : ((1 : Int32) < (2 : Int32))) q)
      intro _
      refine wiload C X22 f0_110 rfl ?_
      refine wiconst C X22 f0_112 (3 : Int32) rfl ?_
      refine wicmp_lt C X22 f0_113 ?_ (fun q => absurd (by decide : ((1 : Int32) < (3 : Int32))) q)
      intro _
      refine waload C X22 f0_122 rfl rfl ?_
      refine wvirtual C X22 (y := (⟨"com/example/hornwork/hornwork/FibonacciHeap", "isEmpty", "()Z"⟩ : MethodName)) (z := (⟨"com/example/hornwork/hornwork/FibonacciHeap", "isEmpty", "()Z"⟩ : MethodName)) (tw_39 hw) (tw_40 hw) (notFace_of_selects (args := #[]) (mvT C.2.1 (tw_42 hw))) (tw_42 hw) (tw_41 hw) (tw_43 hw) (tw_3 hw) (by decide) (rm4_0 l Z a0 hw [] b6 T22.heap n0 (Nat.le_trans q20 K22.1) G22_11) rfl (a := b6) G22_0 f0_124 (argsL := []) (rest := []) rfl rfl (lenOf pd_5 rfl) rfl (W := 0) (Nat.le_of_eq rfl) (by decide) (by decide) (by decide) (by decide) ?_
      intro v23 T23 L23 X23 q23
      obtain ⟨rfl, Nq23, eq23⟩ := q23
      have N23 := Fr.app N22 Nq23
      show Go p e below s _ _ _ T23 (mkF m 127 #[.val (.int y1), .val (.int y2), .val (.int q0), .val (.int q1), .val (.int q2), .val (.int (1 : Int32)), .val (.int (1 : Int32)), .val (.ref b6), .val (.int (1 : Int32)), .val (.int (0 : Int32)), .unset] [(.int (1 : Int32))])
      refine wistore C X23 f0_127 #[.val (.int y1), .val (.int y2), .val (.int q0), .val (.int q1), .val (.int q2), .val (.int (1 : Int32)), .val (.int (1 : Int32)), .val (.ref b6), .val (.int (1 : Int32)), .val (.int (0 : Int32)), .val (.int (1 : Int32))] rfl ?_
      refine wiload C X23 f0_129 rfl ?_
      refine wif_eq C X23 f0_131 (fun q => absurd q (by decide : ¬ ((1 : Int32) = (0 : Int32)))) ?_
      intro _
      refine wiload C X23 f0_134 rfl ?_
      refine wiload C X23 f0_136 rfl ?_
      refine wif_ne C X23 f0_138 (fun q => absurd q (by decide : ¬ ((1 : Int32) = (0 : Int32)))) ?_
      intro _
      refine wiconst C X23 f0_145 (0 : Int32) rfl ?_
      refine wicmp_ne C X23 f0_146 ?_ (fun q => absurd (by decide : ((0 : Int32) = (0 : Int32))) q)
      intro _
      refine wiload C X23 f0_149 rfl ?_
      refine wiload C X23 f0_151 rfl ?_
      refine wiload C X23 f0_153 rfl ?_
      refine wicmp_ne C X23 f0_155 ?_ (fun q => absurd (by decide : ((1 : Int32) = (1 : Int32))) q)
      intro _
      refine wiconst C X23 f0_158 (1 : Int32) rfl ?_
      refine wgoto C X23 f0_159 ?_
      refine wicmp_ne C X23 f0_163 ?_ (fun q => absurd (by decide : ((1 : Int32) = (1 : Int32))) q)
      intro _
      refine wiconst C X23 f0_166 (1 : Int32) rfl ?_
      refine wgoto C X23 f0_167 ?_
      refine wiretN C X23 (t := .boolean) (by simp) f0_171 rfl (1 : Int32) (by decide) (by decide) (by decide) ?_
      rw [eq23]
      exact ⟨rfl, N23⟩
  · refine wnew C X0 (tw_1 hw) (tw_2 hw) (tw_3 hw) e0 f0_19 (by decide) (by decide) ?_
    intro T24 h24 b24 g24 X24 e24 E24 A24 D24
    have sz24 : h0.size ≤ b24 := Nat.le_trans (Nat.le_refl h0.size) (Nat.le_of_eq g24.symm)
    have F24_rootOfDegree : Fld Z h24 b24 "com/example/hornwork/hornwork/FibonacciHeap" "rootOfDegree" "[I" .null := D24 (Or.inr (tw_12 hw)) (ty := (.array .int)) (by decide)
    have F24_least : Fld Z h24 b24 "com/example/hornwork/hornwork/FibonacciHeap" "least" "I" (.int (0 : Int32)) := D24 (Or.inl (tw_14 hw)) (ty := .int) (by decide)
    have F24_key : Fld Z h24 b24 "com/example/hornwork/hornwork/FibonacciHeap" "key" "[D" .null := D24 (Or.inr (tw_17 hw)) (ty := (.array .double)) (by decide)
    have F24_parent : Fld Z h24 b24 "com/example/hornwork/hornwork/FibonacciHeap" "parent" "[I" .null := D24 (Or.inr (tw_19 hw)) (ty := (.array .int)) (by decide)
    have F24_child : Fld Z h24 b24 "com/example/hornwork/hornwork/FibonacciHeap" "child" "[I" .null := D24 (Or.inr (tw_21 hw)) (ty := (.array .int)) (by decide)
    have F24_left : Fld Z h24 b24 "com/example/hornwork/hornwork/FibonacciHeap" "left" "[I" .null := D24 (Or.inr (tw_23 hw)) (ty := (.array .int)) (by decide)
    have F24_right : Fld Z h24 b24 "com/example/hornwork/hornwork/FibonacciHeap" "right" "[I" .null := D24 (Or.inr (tw_25 hw)) (ty := (.array .int)) (by decide)
    have F24_degree : Fld Z h24 b24 "com/example/hornwork/hornwork/FibonacciHeap" "degree" "[I" .null := D24 (Or.inr (tw_27 hw)) (ty := (.array .int)) (by decide)
    have F24_marked : Fld Z h24 b24 "com/example/hornwork/hornwork/FibonacciHeap" "marked" "[Z" .null := D24 (Or.inr (tw_30 hw)) (ty := (.array .boolean)) (by decide)
    have F24_contained : Fld Z h24 b24 "com/example/hornwork/hornwork/FibonacciHeap" "contained" "[Z" .null := D24 (Or.inr (tw_32 hw)) (ty := (.array .boolean)) (by decide)
    have F24_roots : Fld Z h24 b24 "com/example/hornwork/hornwork/FibonacciHeap" "roots" "[I" .null := D24 (Or.inr (tw_34 hw)) (ty := (.array .int)) (by decide)
    refine wdup C X24 f0_22 rfl ?_
    refine wiconst C X24 f0_23 (3 : Int32) rfl ?_
    refine wspecial C X24 (y := (⟨"com/example/hornwork/hornwork/FibonacciHeap", "<init>", "(I)V"⟩ : MethodName)) rfl (tw_4 hw) (tw_5 hw) (tw_6 hw) (tw_3 hw) rfl (by decide) (rm1 l Z a0 hw [] b24 (3 : Int32) h24 n0 (Nat.le_trans Z0 E24.1) A24 F24_key F24_parent F24_child F24_left F24_right F24_degree F24_marked F24_contained F24_roots F24_rootOfDegree F24_least (Nat.le_trans Z0 sz24) rfl) e24 f0_24 (a := b24) (argsL := [(.int (3 : Int32))]) (rest := [(.ref b24)]) rfl rfl (lenOf pd_0 rfl) rfl (W := 1) (Nat.le_of_eq rfl) (by decide) (by decide) (by decide) (by decide) ?_
    intro v25 T25 L25 X25 q25
    obtain ⟨ky_25, pa_25, ch_25, le_25, ri_25, de_25, mk_25, co_25, ro_25, rd_25, kky_25, kpa_25, kch_25, kle_25, kri_25, kde_25, kmk_25, kco_25, kro_25, krd_25, RD_25, rfl, Nq25, K25, G25_0, G25_1, G25_2, G25_3, G25_4, G25_5, G25_6, G25_7, G25_8, G25_9, G25_10, G25_11, G25_12, G25_13, G25_14, G25_15, G25_16, G25_17, G25_18, G25_19, G25_20, G25_21, G25_22, G25_23, G25_24, G25_25, G25_26, G25_27, G25_28, G25_29, G25_30, G25_31, G25_32, G25_33, G25_34, G25_35, G25_36, G25_37, G25_38, G25_39, G25_40, G25_41, G25_42, G25_43, G25_44, G25_45, G25_46, G25_47, G25_48, G25_49, G25_50, G25_51, G25_52, G25_53, G25_54, G25_55, G25_56, G25_57, G25_58, G25_59, G25_60, G25_61, G25_62, G25_63, G25_64, G25_65, G25_66, G25_67, G25_68, G25_69, G25_70, G25_71, G25_72, G25_73, G25_74, G25_75, G25_76, G25_77⟩ := q25
    have szG25_0 : h0.size ≤ ky_25 := Nat.le_trans (Nat.le_trans (Nat.le_refl h0.size) E24.1) G25_0
    have szG25_1 : h0.size ≤ pa_25 := Nat.le_trans (Nat.le_trans (Nat.le_refl h0.size) E24.1) G25_1
    have szG25_2 : h0.size ≤ ch_25 := Nat.le_trans (Nat.le_trans (Nat.le_refl h0.size) E24.1) G25_2
    have szG25_3 : h0.size ≤ le_25 := Nat.le_trans (Nat.le_trans (Nat.le_refl h0.size) E24.1) G25_3
    have szG25_4 : h0.size ≤ ri_25 := Nat.le_trans (Nat.le_trans (Nat.le_refl h0.size) E24.1) G25_4
    have szG25_5 : h0.size ≤ de_25 := Nat.le_trans (Nat.le_trans (Nat.le_refl h0.size) E24.1) G25_5
    have szG25_6 : h0.size ≤ mk_25 := Nat.le_trans (Nat.le_trans (Nat.le_refl h0.size) E24.1) G25_6
    have szG25_7 : h0.size ≤ co_25 := Nat.le_trans (Nat.le_trans (Nat.le_refl h0.size) E24.1) G25_7
    have szG25_8 : h0.size ≤ ro_25 := Nat.le_trans (Nat.le_trans (Nat.le_refl h0.size) E24.1) G25_8
    have szG25_9 : h0.size ≤ rd_25 := Nat.le_trans (Nat.le_trans (Nat.le_refl h0.size) E24.1) G25_9
    have N25 := Fr.app N0 Nq25
    show Go p e below s _ _ _ T25 (mkF m 27 #[.val (.int y1), .val (.int y2), .val (.int q0), .val (.int q1), .val (.int q2), .val (.int (2 : Int32)), .val (.int mm), .unset, .unset, .unset, .unset] [(.ref b24)])
    refine wastore C X25 f0_27 #[.val (.int y1), .val (.int y2), .val (.int q0), .val (.int q1), .val (.int q2), .val (.int (2 : Int32)), .val (.int mm), .val (.ref b24), .unset, .unset, .unset] rfl rfl ?_
    refine waload C X25 f0_29 rfl rfl ?_
    refine wvirtual C X25 (y := (⟨"com/example/hornwork/hornwork/FibonacciHeap", "isEmpty", "()Z"⟩ : MethodName)) (z := (⟨"com/example/hornwork/hornwork/FibonacciHeap", "isEmpty", "()Z"⟩ : MethodName)) (tw_39 hw) (tw_40 hw) (notFace_of_selects (args := #[]) (mvT C.2.1 (tw_42 hw))) (tw_42 hw) (tw_41 hw) (tw_43 hw) (tw_3 hw) (by decide) (rm4_0 l Z a0 hw [] b24 T25.heap n0 (Nat.le_trans (Nat.le_trans Z0 E24.1) K25.1) G25_66) rfl (a := b24) G25_55 f0_31 (argsL := []) (rest := []) rfl rfl (lenOf pd_5 rfl) rfl (W := 0) (Nat.le_of_eq rfl) (by decide) (by decide) (by decide) (by decide) ?_
    intro v26 T26 L26 X26 q26
    obtain ⟨rfl, Nq26, eq26⟩ := q26
    have N26 := Fr.app N25 Nq26
    show Go p e below s _ _ _ T26 (mkF m 34 #[.val (.int y1), .val (.int y2), .val (.int q0), .val (.int q1), .val (.int q2), .val (.int (2 : Int32)), .val (.int mm), .val (.ref b24), .unset, .unset, .unset] [(.int (1 : Int32))])
    refine wistore C X26 f0_34 #[.val (.int y1), .val (.int y2), .val (.int q0), .val (.int q1), .val (.int q2), .val (.int (2 : Int32)), .val (.int mm), .val (.ref b24), .val (.int (1 : Int32)), .unset, .unset] rfl ?_
    refine wiload C X26 f0_36 rfl ?_
    refine wiconst C X26 f0_38 (1 : Int32) rfl ?_
    refine wicmp_lt C X26 f0_39 (fun q => absurd q (by decide : ¬ ((2 : Int32) < (1 : Int32)))) ?_
    intro _
    refine waload C X26 f0_42 rfl rfl ?_
    refine wiconst C X26 f0_44 (0 : Int32) rfl ?_
    refine own_foldI (z := (Int32.ofInt 0)) (by decide) ?_
    refine wiloadN C X26 f0_45 rfl ?_
    refine wi2d C X26 f0_46 ?_
    have ne28 : b24 ≠ ky_25 := (Nat.ne_of_lt (Nat.lt_of_lt_of_le A24.lt G25_0))
    have ne29 : b24 ≠ pa_25 := (Nat.ne_of_lt (Nat.lt_of_lt_of_le A24.lt G25_1))
    have ne30 : b24 ≠ ch_25 := (Nat.ne_of_lt (Nat.lt_of_lt_of_le A24.lt G25_2))
    have ne31 : b24 ≠ de_25 := (Nat.ne_of_lt (Nat.lt_of_lt_of_le A24.lt G25_5))
    have ne32 : b24 ≠ mk_25 := (Nat.ne_of_lt (Nat.lt_of_lt_of_le A24.lt G25_6))
    have ne33 : b24 ≠ co_25 := (Nat.ne_of_lt (Nat.lt_of_lt_of_le A24.lt G25_7))
    have ne34 : b24 ≠ le_25 := (Nat.ne_of_lt (Nat.lt_of_lt_of_le A24.lt G25_3))
    have ne35 : b24 ≠ ri_25 := (Nat.ne_of_lt (Nat.lt_of_lt_of_le A24.lt G25_4))
    refine wvirtual C X26 (y := (⟨"com/example/hornwork/hornwork/FibonacciHeap", "insert", "(ID)V"⟩ : MethodName)) (z := (⟨"com/example/hornwork/hornwork/FibonacciHeap", "insert", "(ID)V"⟩ : MethodName)) (tw_44 hw) (tw_45 hw) (notFace_of_selects (args := #[]) (mvT C.2.1 (tw_47 hw))) (tw_47 hw) (tw_46 hw) (tw_48 hw) (tw_3 hw) (by decide) (rm5_0 l Z a0 hw [] b24 0 (FP.i2d q0) ky_25 pa_25 ch_25 le_25 ri_25 de_25 mk_25 co_25 ro_25 rd_25 kky_25 kpa_25 kch_25 kde_25 kmk_25 kco_25 kri_25 kle_25 (fun _ => 0) (fun _ => 0) (fun _ => 0) (fun _ => 0) (fun _ => 0) (fun _ => 0) (fun _ => 0) (fun _ => 0) T25.heap n0 (Nat.le_trans (Nat.le_trans Z0 E24.1) K25.1) G25_55 G25_56 G25_57 G25_58 G25_59 G25_60 G25_61 G25_62 G25_63 G25_64 G25_65 G25_66 G25_67 G25_68 G25_69 G25_72 G25_73 G25_74 G25_71 G25_70 (Nat.le_trans Z0 sz24) (Nat.le_trans Z0 szG25_0) (Nat.le_trans Z0 szG25_1) (Nat.le_trans Z0 szG25_2) (Nat.le_trans Z0 szG25_5) (Nat.le_trans Z0 szG25_6) (Nat.le_trans Z0 szG25_7) (Nat.le_trans Z0 szG25_4) (Nat.le_trans Z0 szG25_3) (by omega) ne28 G25_10 ne29 (Ne.symm G25_11) (Ne.symm G25_19) ne30 (Ne.symm G25_14) (Ne.symm G25_22) G25_29 ne31 G25_15 (Ne.symm G25_23) G25_30 G25_45 ne32 (Ne.symm G25_16) (Ne.symm G25_24) G25_31 (Ne.symm G25_46) (Ne.symm G25_49) ne33 G25_13 G25_21 G25_28 (Ne.symm G25_40) (Ne.symm G25_41) (Ne.symm G25_42) G25_12 (Ne.symm G25_20) G25_27 (Ne.symm G25_35) G25_36 (Ne.symm G25_37) ne34 G25_34 ne35) eq26 (a := b24) G25_55 f0_47 (argsL := [(.int (Int32.ofInt 0)), (.double (FP.i2d q0))]) (rest := []) rfl rfl (lenOf pd_6 rfl) rfl (W := 0) (Nat.le_of_eq rfl) (by decide) (by decide) (by decide) (by decide) ?_
    intro v27 T27 L27 X27 q27
    obtain ⟨rfl, Nq27, K27, G27_0, G27_1, G27_2, G27_3, G27_4, G27_5, G27_6, G27_7, G27_8, G27_9, G27_10, G27_11, G27_12, G27_13, G27_14, G27_15, G27_16, G27_17, G27_18, G27_19⟩ := q27
    have q36 := (Nat.le_trans (Nat.le_trans (Nat.le_refl h0.size) E24.1) K25.1)
    have N27 := Fr.app N26 Nq27
    show Go p e below s _ _ _ T27 (mkF m 50 #[.val (.int y1), .val (.int y2), .val (.int q0), .val (.int q1), .val (.int q2), .val (.int (2 : Int32)), .val (.int mm), .val (.ref b24), .val (.int (1 : Int32)), .unset, .unset] [])
    refine wiload C X27 f0_50 rfl ?_
    refine wiconst C X27 f0_52 (2 : Int32) rfl ?_
    refine wicmp_lt C X27 f0_53 (fun q => absurd q (by decide : ¬ ((2 : Int32) < (2 : Int32)))) ?_
    intro _
    refine waload C X27 f0_56 rfl rfl ?_
    refine wiconst C X27 f0_58 (1 : Int32) rfl ?_
    refine own_foldI (z := (Int32.ofInt 1)) (by decide) ?_
    refine wiloadN C X27 f0_59 rfl ?_
    refine wi2d C X27 f0_60 ?_
    have q38 := (Nat.le_trans (Nat.le_trans (Nat.le_trans Z0 E24.1) K25.1) K27.1)
    refine wvirtual C X27 (y := (⟨"com/example/hornwork/hornwork/FibonacciHeap", "insert", "(ID)V"⟩ : MethodName)) (z := (⟨"com/example/hornwork/hornwork/FibonacciHeap", "insert", "(ID)V"⟩ : MethodName)) (tw_44 hw) (tw_45 hw) (notFace_of_selects (args := #[]) (mvT C.2.1 (tw_47 hw))) (tw_47 hw) (tw_46 hw) (tw_48 hw) (tw_3 hw) (by decide) (rm5_1 l Z a0 hw [] b24 1 (FP.i2d q1) ky_25 pa_25 ch_25 le_25 ri_25 de_25 mk_25 co_25 ro_25 rd_25 kky_25 kpa_25 kch_25 kde_25 kmk_25 kco_25 kri_25 kle_25 (own_updD (fun _ => 0) 0 (FP.i2d q0)) (own_upd (fun _ => 0) 0 (-1)) (own_upd (fun _ => 0) 0 (-1)) (own_upd (fun _ => 0) 0 0) (own_upd (fun _ => 0) 0 0) (own_upd (fun _ => 0) 0 1) (own_upd (fun _ => 0) 0 0) (own_upd (fun _ => 0) 0 0) (own_upd (fun _ => 0) 0 q0.toInt) q1.toInt 0 0 T27.heap n0 q38 G27_0 G27_1 G27_2 G27_3 G27_4 G27_5 G27_6 G27_7 G27_8 G27_9 G27_10 G27_11 G27_12 G27_13 G27_14 G27_15 G27_16 G27_17 G27_18 G27_19 (Nat.le_trans Z0 sz24) (Nat.le_trans Z0 szG25_0) (Nat.le_trans Z0 szG25_1) (Nat.le_trans Z0 szG25_2) (Nat.le_trans Z0 szG25_5) (Nat.le_trans Z0 szG25_6) (Nat.le_trans Z0 szG25_7) (Nat.le_trans Z0 szG25_4) (Nat.le_trans Z0 szG25_3) (by omega) (by omega) (by omega) (by omega) (own_hK own_hK0 (own_i2d q0)) (own_i2d q1) (own_us _ _ _) ne28 G25_10 ne29 (Ne.symm G25_11) (Ne.symm G25_19) ne30 (Ne.symm G25_14) (Ne.symm G25_22) G25_29 ne31 G25_15 (Ne.symm G25_23) G25_30 G25_45 ne32 (Ne.symm G25_16) (Ne.symm G25_24) G25_31 (Ne.symm G25_46) (Ne.symm G25_49) ne33 G25_13 G25_21 G25_28 (Ne.symm G25_40) (Ne.symm G25_41) (Ne.symm G25_42) G25_12 (Ne.symm G25_20) G25_27 (Ne.symm G25_35) G25_36 (Ne.symm G25_37) ne34 G25_34 ne35) rfl (a := b24) G27_0 f0_61 (argsL := [(.int (Int32.ofInt 1)), (.double (FP.i2d q1))]) (rest := []) rfl rfl (lenOf pd_6 rfl) rfl (W := 0) (Nat.le_of_eq rfl) (by decide) (by decide) (by decide) (by decide) ?_
    intro v37 T37 L37 X37 q37
    obtain ⟨g0_37, rfl, Nq37, K37, G37_0, G37_1, G37_2, G37_3, G37_4, G37_5, G37_6, G37_7, G37_8, G37_9, G37_10, G37_11, G37_12, G37_13, G37_14, G37_15, G37_16, G37_17, G37_18, G37_19, G37_20⟩ := q37
    have N37 := Fr.app N27 Nq37
    show Go p e below s _ _ _ T37 (mkF m 64 #[.val (.int y1), .val (.int y2), .val (.int q0), .val (.int q1), .val (.int q2), .val (.int (2 : Int32)), .val (.int mm), .val (.ref b24), .val (.int (1 : Int32)), .unset, .unset] [])
    rcases G37_20 with ⟨rfl, hb61⟩ | ⟨rfl, hb61⟩
    · refine wiload C X37 f0_64 rfl ?_
      refine wiconst C X37 f0_66 (3 : Int32) rfl ?_
      refine wicmp_lt C X37 f0_67 ?_ (fun q => absurd (by decide : ((2 : Int32) < (3 : Int32))) q)
      intro _
      refine waload C X37 f0_79 rfl rfl ?_
      refine wvirtual C X37 (y := (⟨"com/example/hornwork/hornwork/FibonacciHeap", "isEmpty", "()Z"⟩ : MethodName)) (z := (⟨"com/example/hornwork/hornwork/FibonacciHeap", "isEmpty", "()Z"⟩ : MethodName)) (tw_39 hw) (tw_40 hw) (notFace_of_selects (args := #[]) (mvT C.2.1 (tw_42 hw))) (tw_42 hw) (tw_41 hw) (tw_43 hw) (tw_3 hw) (by decide) (rm4_1 l Z a0 hw [] b24 1 T37.heap n0 (Nat.le_trans q38 K37.1) G37_11 (by omega)) rfl (a := b24) G37_0 f0_81 (argsL := []) (rest := []) rfl rfl (lenOf pd_5 rfl) rfl (W := 0) (Nat.le_of_eq rfl) (by decide) (by decide) (by decide) (by decide) ?_
      intro v39 T39 L39 X39 q39
      obtain ⟨rfl, Nq39, eq39⟩ := q39
      have N39 := Fr.app N37 Nq39
      show Go p e below s _ _ _ T39 (mkF m 84 #[.val (.int y1), .val (.int y2), .val (.int q0), .val (.int q1), .val (.int q2), .val (.int (2 : Int32)), .val (.int mm), .val (.ref b24), .val (.int (1 : Int32)), .unset, .unset] [(.int (0 : Int32))])
      refine wistore C X39 f0_84 #[.val (.int y1), .val (.int y2), .val (.int q0), .val (.int q1), .val (.int q2), .val (.int (2 : Int32)), .val (.int mm), .val (.ref b24), .val (.int (1 : Int32)), .val (.int (0 : Int32)), .unset] rfl ?_
      rcases own_s2 hmm with rfl | rfl | rfl
      · refine wiload C X39 f0_86 rfl ?_
        refine wiconst C X39 f0_88 (1 : Int32) rfl ?_
        refine wicmp_lt C X39 f0_89 ?_ (fun q => absurd (by decide : ((0 : Int32) < (1 : Int32))) q)
        intro _
        refine wiload C X39 f0_98 rfl ?_
        refine wiconst C X39 f0_100 (2 : Int32) rfl ?_
        refine wicmp_lt C X39 f0_101 ?_ (fun q => absurd (by decide : ((0 : Int32) < (2 : Int32))) q)
        intro _
        refine wiload C X39 f0_110 rfl ?_
        refine wiconst C X39 f0_112 (3 : Int32) rfl ?_
        refine wicmp_lt C X39 f0_113 ?_ (fun q => absurd (by decide : ((0 : Int32) < (3 : Int32))) q)
        intro _
        refine waload C X39 f0_122 rfl rfl ?_
        refine wvirtual C X39 (y := (⟨"com/example/hornwork/hornwork/FibonacciHeap", "isEmpty", "()Z"⟩ : MethodName)) (z := (⟨"com/example/hornwork/hornwork/FibonacciHeap", "isEmpty", "()Z"⟩ : MethodName)) (tw_39 hw) (tw_40 hw) (notFace_of_selects (args := #[]) (mvT C.2.1 (tw_42 hw))) (tw_42 hw) (tw_41 hw) (tw_43 hw) (tw_3 hw) (by decide) (rm4_1 l Z a0 hw [] b24 1 T37.heap n0 (Nat.le_trans q38 K37.1) G37_11 (by omega)) eq39 (a := b24) G37_0 f0_124 (argsL := []) (rest := []) rfl rfl (lenOf pd_5 rfl) rfl (W := 0) (Nat.le_of_eq rfl) (by decide) (by decide) (by decide) (by decide) ?_
        intro v40 T40 L40 X40 q40
        obtain ⟨rfl, Nq40, eq40⟩ := q40
        have N40 := Fr.app N39 Nq40
        show Go p e below s _ _ _ T40 (mkF m 127 #[.val (.int y1), .val (.int y2), .val (.int q0), .val (.int q1), .val (.int q2), .val (.int (2 : Int32)), .val (.int (0 : Int32)), .val (.ref b24), .val (.int (1 : Int32)), .val (.int (0 : Int32)), .unset] [(.int (0 : Int32))])
        refine wistore C X40 f0_127 #[.val (.int y1), .val (.int y2), .val (.int q0), .val (.int q1), .val (.int q2), .val (.int (2 : Int32)), .val (.int (0 : Int32)), .val (.ref b24), .val (.int (1 : Int32)), .val (.int (0 : Int32)), .val (.int (0 : Int32))] rfl ?_
        refine wiload C X40 f0_129 rfl ?_
        refine wif_eq C X40 f0_131 (fun q => absurd q (by decide : ¬ ((1 : Int32) = (0 : Int32)))) ?_
        intro _
        refine wiload C X40 f0_134 rfl ?_
        refine wiload C X40 f0_136 rfl ?_
        refine wif_ne C X40 f0_138 (fun q => absurd q (by decide : ¬ ((2 : Int32) = (0 : Int32)))) ?_
        intro _
        refine wiconst C X40 f0_145 (0 : Int32) rfl ?_
        refine wicmp_ne C X40 f0_146 ?_ (fun q => absurd (by decide : ((0 : Int32) = (0 : Int32))) q)
        intro _
        refine wiload C X40 f0_149 rfl ?_
        refine wiload C X40 f0_151 rfl ?_
        refine wiload C X40 f0_153 rfl ?_
        refine wicmp_ne C X40 f0_155 (fun q => absurd q (by decide : ¬ ((0 : Int32) = (2 : Int32)))) ?_
        intro _
        refine wiconst C X40 f0_162 (0 : Int32) rfl ?_
        refine wicmp_ne C X40 f0_163 ?_ (fun q => absurd (by decide : ((0 : Int32) = (0 : Int32))) q)
        intro _
        refine wiconst C X40 f0_166 (1 : Int32) rfl ?_
        refine wgoto C X40 f0_167 ?_
        refine wiretN C X40 (t := .boolean) (by simp) f0_171 rfl (1 : Int32) (by decide) (by decide) (by decide) ?_
        rw [eq40]
        exact ⟨rfl, N40⟩
      · refine wiload C X39 f0_86 rfl ?_
        refine wiconst C X39 f0_88 (1 : Int32) rfl ?_
        refine wicmp_lt C X39 f0_89 (fun q => absurd q (by decide : ¬ ((1 : Int32) < (1 : Int32)))) ?_
        intro _
        refine waload C X39 f0_92 rfl rfl ?_
        have ne42 : b24 ≠ ro_25 := (Nat.ne_of_lt (Nat.lt_of_lt_of_le A24.lt G25_8))
        have q43 := ((G25_75.keep K27 (ninS (Ne.symm G25_17) (ninS (Ne.symm G25_25) (ninS (Ne.symm G25_32) (ninS (Ne.symm G25_47) (ninS (Ne.symm G25_50) (ninS (Ne.symm G25_52) (ninS (Ne.symm G25_43) (ninS (Ne.symm G25_38) (ninS (Ne.symm ne42) nin0)))))))))).keep K37 (ninS (Ne.symm G25_17) (ninS (Ne.symm G25_25) (ninS (Ne.symm G25_32) (ninS (Ne.symm G25_47) (ninS (Ne.symm G25_50) (ninS (Ne.symm G25_52) (ninS (Ne.symm G25_43) (ninS (Ne.symm G25_38) (ninS (Ne.symm ne42) nin0))))))))))
        have ne44 : b24 ≠ rd_25 := (Nat.ne_of_lt (Nat.lt_of_lt_of_le A24.lt G25_9))
        have q45 := ((G25_76.keep K27 (ninS (Ne.symm G25_18) (ninS (Ne.symm G25_26) (ninS (Ne.symm G25_33) (ninS (Ne.symm G25_48) (ninS (Ne.symm G25_51) (ninS (Ne.symm G25_53) (ninS (Ne.symm G25_44) (ninS (Ne.symm G25_39) (ninS (Ne.symm ne44) nin0)))))))))).keep K37 (ninS (Ne.symm G25_18) (ninS (Ne.symm G25_26) (ninS (Ne.symm G25_33) (ninS (Ne.symm G25_48) (ninS (Ne.symm G25_51) (ninS (Ne.symm G25_53) (ninS (Ne.symm G25_44) (ninS (Ne.symm G25_39) (ninS (Ne.symm ne44) nin0))))))))))
        refine wvirtual C X39 (y := (⟨"com/example/hornwork/hornwork/FibonacciHeap", "removeLeast", "()I"⟩ : MethodName)) (z := (⟨"com/example/hornwork/hornwork/FibonacciHeap", "removeLeast", "()I"⟩ : MethodName)) (tw_61 hw) (tw_62 hw) (notFace_of_selects (args := #[]) (mvT C.2.1 (tw_64 hw))) (tw_64 hw) (tw_63 hw) (tw_65 hw) (tw_3 hw) (by decide) (rm9_B l Z a0 hw [] b24 ky_25 pa_25 ch_25 le_25 ri_25 de_25 mk_25 co_25 ro_25 rd_25 kri_25 kle_25 kch_25 kco_25 kde_25 kro_25 krd_25 (own_upd (own_upd (own_upd (own_upd (fun _ => 0) 0 0) 1 1) 0 1) 1 0) (own_upd (own_upd (own_upd (own_upd (fun _ => 0) 0 0) 1 1) 1 0) 0 1) (own_upd (own_upd (fun _ => 0) 0 (-1)) 1 (-1)) (own_upd (own_upd (fun _ => 0) 0 1) 1 1) (own_upd (own_upd (fun _ => 0) 0 0) 1 0) (fun _ => 0) RD_25 1 0 T37.heap n0 (Nat.le_trans q38 K37.1) G37_0 G37_1 G37_2 G37_3 G37_4 G37_5 G37_6 G37_7 G37_8 G37_9 G37_10 G37_11 G37_18 G37_19 G37_14 G37_17 G37_15 q43 q45 (Nat.le_trans Z0 sz24) (Nat.le_trans Z0 szG25_4) (Nat.le_trans Z0 szG25_3) (Nat.le_trans Z0 szG25_2) (Nat.le_trans Z0 szG25_7) (Nat.le_trans Z0 szG25_5) (Nat.le_trans Z0 szG25_8) (Nat.le_trans Z0 szG25_9) (by omega) (by omega) (by omega) (own_us _ _ _) (own_us _ _ _) ((own_un (by decide)).trans (own_us _ _ _)) ((own_un (by decide)).trans (own_us _ _ _)) (G25_77 0 (by decide)) ne35 G25_34 ne34 (Ne.symm G25_35) (Ne.symm G25_40) G25_38 G25_43 G25_39 (Ne.symm G25_44) ne42 G25_47 (Ne.symm G25_54) ne44 (Ne.symm G25_37) (Ne.symm G25_42) ne33 G25_53 G25_52 G25_27 G25_28 ne30 G25_33 G25_32 G25_31) eq39 (a := b24) G37_0 f0_94 (argsL := []) (rest := []) rfl rfl (lenOf pd_7 rfl) rfl (W := 0) (Nat.le_of_eq rfl) (by decide) (by decide) (by decide) (by decide) ?_
        intro v41 T41 L41 X41 q41
        obtain ⟨rfl, Nq41, K41, G41_0, G41_1, G41_2, G41_3, G41_4, G41_5, G41_6, G41_7, G41_8, G41_9, G41_10, G41_11, G41_12, G41_13, G41_14, G41_15, G41_16, G41_17⟩ := q41
        have N41 := Fr.app N39 Nq41
        show Go p e below s _ _ _ T41 (mkF m 97 #[.val (.int y1), .val (.int y2), .val (.int q0), .val (.int q1), .val (.int q2), .val (.int (2 : Int32)), .val (.int (1 : Int32)), .val (.ref b24), .val (.int (1 : Int32)), .val (.int (0 : Int32)), .unset] [(.int (Int32.ofInt 1))])
        refine wpop C X41 f0_97 rfl ?_
        refine wiload C X41 f0_98 rfl ?_
        refine wiconst C X41 f0_100 (2 : Int32) rfl ?_
        refine wicmp_lt C X41 f0_101 ?_ (fun q => absurd (by decide : ((1 : Int32) < (2 : Int32))) q)
        intro _
        refine wiload C X41 f0_110 rfl ?_
        refine wiconst C X41 f0_112 (3 : Int32) rfl ?_
        refine wicmp_lt C X41 f0_113 ?_ (fun q => absurd (by decide : ((1 : Int32) < (3 : Int32))) q)
        intro _
        refine waload C X41 f0_122 rfl rfl ?_
        refine wvirtual C X41 (y := (⟨"com/example/hornwork/hornwork/FibonacciHeap", "isEmpty", "()Z"⟩ : MethodName)) (z := (⟨"com/example/hornwork/hornwork/FibonacciHeap", "isEmpty", "()Z"⟩ : MethodName)) (tw_39 hw) (tw_40 hw) (notFace_of_selects (args := #[]) (mvT C.2.1 (tw_42 hw))) (tw_42 hw) (tw_41 hw) (tw_43 hw) (tw_3 hw) (by decide) (rm4_1 l Z a0 hw [] b24 0 T41.heap n0 (Nat.le_trans (Nat.le_trans q38 K37.1) K41.1) G41_11 (by omega)) rfl (a := b24) G41_0 f0_124 (argsL := []) (rest := []) rfl rfl (lenOf pd_5 rfl) rfl (W := 0) (Nat.le_of_eq rfl) (by decide) (by decide) (by decide) (by decide) ?_
        intro v46 T46 L46 X46 q46
        obtain ⟨rfl, Nq46, eq46⟩ := q46
        have N46 := Fr.app N41 Nq46
        show Go p e below s _ _ _ T46 (mkF m 127 #[.val (.int y1), .val (.int y2), .val (.int q0), .val (.int q1), .val (.int q2), .val (.int (2 : Int32)), .val (.int (1 : Int32)), .val (.ref b24), .val (.int (1 : Int32)), .val (.int (0 : Int32)), .unset] [(.int (0 : Int32))])
        refine wistore C X46 f0_127 #[.val (.int y1), .val (.int y2), .val (.int q0), .val (.int q1), .val (.int q2), .val (.int (2 : Int32)), .val (.int (1 : Int32)), .val (.ref b24), .val (.int (1 : Int32)), .val (.int (0 : Int32)), .val (.int (0 : Int32))] rfl ?_
        refine wiload C X46 f0_129 rfl ?_
        refine wif_eq C X46 f0_131 (fun q => absurd q (by decide : ¬ ((1 : Int32) = (0 : Int32)))) ?_
        intro _
        refine wiload C X46 f0_134 rfl ?_
        refine wiload C X46 f0_136 rfl ?_
        refine wif_ne C X46 f0_138 (fun q => absurd q (by decide : ¬ ((2 : Int32) = (0 : Int32)))) ?_
        intro _
        refine wiconst C X46 f0_145 (0 : Int32) rfl ?_
        refine wicmp_ne C X46 f0_146 ?_ (fun q => absurd (by decide : ((0 : Int32) = (0 : Int32))) q)
        intro _
        refine wiload C X46 f0_149 rfl ?_
        refine wiload C X46 f0_151 rfl ?_
        refine wiload C X46 f0_153 rfl ?_
        refine wicmp_ne C X46 f0_155 (fun q => absurd q (by decide : ¬ ((1 : Int32) = (2 : Int32)))) ?_
        intro _
        refine wiconst C X46 f0_162 (0 : Int32) rfl ?_
        refine wicmp_ne C X46 f0_163 ?_ (fun q => absurd (by decide : ((0 : Int32) = (0 : Int32))) q)
        intro _
        refine wiconst C X46 f0_166 (1 : Int32) rfl ?_
        refine wgoto C X46 f0_167 ?_
        refine wiretN C X46 (t := .boolean) (by simp) f0_171 rfl (1 : Int32) (by decide) (by decide) (by decide) ?_
        rw [eq46]
        exact ⟨rfl, N46⟩
      · refine wiload C X39 f0_86 rfl ?_
        refine wiconst C X39 f0_88 (1 : Int32) rfl ?_
        refine wicmp_lt C X39 f0_89 (fun q => absurd q (by decide : ¬ ((2 : Int32) < (1 : Int32)))) ?_
        intro _
        refine waload C X39 f0_92 rfl rfl ?_
        have ne48 : b24 ≠ ro_25 := (Nat.ne_of_lt (Nat.lt_of_lt_of_le A24.lt G25_8))
        have q49 := ((G25_75.keep K27 (ninS (Ne.symm G25_17) (ninS (Ne.symm G25_25) (ninS (Ne.symm G25_32) (ninS (Ne.symm G25_47) (ninS (Ne.symm G25_50) (ninS (Ne.symm G25_52) (ninS (Ne.symm G25_43) (ninS (Ne.symm G25_38) (ninS (Ne.symm ne48) nin0)))))))))).keep K37 (ninS (Ne.symm G25_17) (ninS (Ne.symm G25_25) (ninS (Ne.symm G25_32) (ninS (Ne.symm G25_47) (ninS (Ne.symm G25_50) (ninS (Ne.symm G25_52) (ninS (Ne.symm G25_43) (ninS (Ne.symm G25_38) (ninS (Ne.symm ne48) nin0))))))))))
        have ne50 : b24 ≠ rd_25 := (Nat.ne_of_lt (Nat.lt_of_lt_of_le A24.lt G25_9))
        have q51 := ((G25_76.keep K27 (ninS (Ne.symm G25_18) (ninS (Ne.symm G25_26) (ninS (Ne.symm G25_33) (ninS (Ne.symm G25_48) (ninS (Ne.symm G25_51) (ninS (Ne.symm G25_53) (ninS (Ne.symm G25_44) (ninS (Ne.symm G25_39) (ninS (Ne.symm ne50) nin0)))))))))).keep K37 (ninS (Ne.symm G25_18) (ninS (Ne.symm G25_26) (ninS (Ne.symm G25_33) (ninS (Ne.symm G25_48) (ninS (Ne.symm G25_51) (ninS (Ne.symm G25_53) (ninS (Ne.symm G25_44) (ninS (Ne.symm G25_39) (ninS (Ne.symm ne50) nin0))))))))))
        refine wvirtual C X39 (y := (⟨"com/example/hornwork/hornwork/FibonacciHeap", "removeLeast", "()I"⟩ : MethodName)) (z := (⟨"com/example/hornwork/hornwork/FibonacciHeap", "removeLeast", "()I"⟩ : MethodName)) (tw_61 hw) (tw_62 hw) (notFace_of_selects (args := #[]) (mvT C.2.1 (tw_64 hw))) (tw_64 hw) (tw_63 hw) (tw_65 hw) (tw_3 hw) (by decide) (rm9_B l Z a0 hw [] b24 ky_25 pa_25 ch_25 le_25 ri_25 de_25 mk_25 co_25 ro_25 rd_25 kri_25 kle_25 kch_25 kco_25 kde_25 kro_25 krd_25 (own_upd (own_upd (own_upd (own_upd (fun _ => 0) 0 0) 1 1) 0 1) 1 0) (own_upd (own_upd (own_upd (own_upd (fun _ => 0) 0 0) 1 1) 1 0) 0 1) (own_upd (own_upd (fun _ => 0) 0 (-1)) 1 (-1)) (own_upd (own_upd (fun _ => 0) 0 1) 1 1) (own_upd (own_upd (fun _ => 0) 0 0) 1 0) (fun _ => 0) RD_25 1 0 T37.heap n0 (Nat.le_trans q38 K37.1) G37_0 G37_1 G37_2 G37_3 G37_4 G37_5 G37_6 G37_7 G37_8 G37_9 G37_10 G37_11 G37_18 G37_19 G37_14 G37_17 G37_15 q49 q51 (Nat.le_trans Z0 sz24) (Nat.le_trans Z0 szG25_4) (Nat.le_trans Z0 szG25_3) (Nat.le_trans Z0 szG25_2) (Nat.le_trans Z0 szG25_7) (Nat.le_trans Z0 szG25_5) (Nat.le_trans Z0 szG25_8) (Nat.le_trans Z0 szG25_9) (by omega) (by omega) (by omega) (own_us _ _ _) (own_us _ _ _) ((own_un (by decide)).trans (own_us _ _ _)) ((own_un (by decide)).trans (own_us _ _ _)) (G25_77 0 (by decide)) ne35 G25_34 ne34 (Ne.symm G25_35) (Ne.symm G25_40) G25_38 G25_43 G25_39 (Ne.symm G25_44) ne48 G25_47 (Ne.symm G25_54) ne50 (Ne.symm G25_37) (Ne.symm G25_42) ne33 G25_53 G25_52 G25_27 G25_28 ne30 G25_33 G25_32 G25_31) eq39 (a := b24) G37_0 f0_94 (argsL := []) (rest := []) rfl rfl (lenOf pd_7 rfl) rfl (W := 0) (Nat.le_of_eq rfl) (by decide) (by decide) (by decide) (by decide) ?_
        intro v47 T47 L47 X47 q47
        obtain ⟨rfl, Nq47, K47, G47_0, G47_1, G47_2, G47_3, G47_4, G47_5, G47_6, G47_7, G47_8, G47_9, G47_10, G47_11, G47_12, G47_13, G47_14, G47_15, G47_16, G47_17⟩ := q47
        have N47 := Fr.app N39 Nq47
        show Go p e below s _ _ _ T47 (mkF m 97 #[.val (.int y1), .val (.int y2), .val (.int q0), .val (.int q1), .val (.int q2), .val (.int (2 : Int32)), .val (.int (2 : Int32)), .val (.ref b24), .val (.int (1 : Int32)), .val (.int (0 : Int32)), .unset] [(.int (Int32.ofInt 1))])
        refine wpop C X47 f0_97 rfl ?_
        refine wiload C X47 f0_98 rfl ?_
        refine wiconst C X47 f0_100 (2 : Int32) rfl ?_
        refine wicmp_lt C X47 f0_101 (fun q => absurd q (by decide : ¬ ((2 : Int32) < (2 : Int32)))) ?_
        intro _
        refine waload C X47 f0_104 rfl rfl ?_
        refine wvirtual C X47 (y := (⟨"com/example/hornwork/hornwork/FibonacciHeap", "removeLeast", "()I"⟩ : MethodName)) (z := (⟨"com/example/hornwork/hornwork/FibonacciHeap", "removeLeast", "()I"⟩ : MethodName)) (tw_61 hw) (tw_62 hw) (notFace_of_selects (args := #[]) (mvT C.2.1 (tw_64 hw))) (tw_64 hw) (tw_63 hw) (tw_65 hw) (tw_3 hw) (by decide) (rm9_A l Z a0 hw [] b24 ky_25 pa_25 ch_25 le_25 ri_25 de_25 mk_25 co_25 ro_25 rd_25 kri_25 kch_25 kco_25 (own_upd (own_upd (own_upd (own_upd (own_upd (own_upd (fun _ => 0) 0 0) 1 1) 0 1) 1 0) 0 0) 1 1) (own_upd (own_upd (own_upd (fun _ => 0) 0 (-1)) 1 (-1)) 1 (-1)) (own_upd (own_upd (own_upd (fun _ => 0) 0 1) 1 1) 1 0) 0 T47.heap n0 (Nat.le_trans (Nat.le_trans q38 K37.1) K47.1) G47_0 G47_1 G47_2 G47_3 G47_4 G47_5 G47_6 G47_7 G47_8 G47_9 G47_10 G47_11 G47_12 G47_14 G47_15 (Nat.le_trans Z0 sz24) (Nat.le_trans Z0 szG25_4) (Nat.le_trans Z0 szG25_2) (Nat.le_trans Z0 szG25_7) (by omega) ((own_un (by decide)).trans ((own_un (by decide)).trans (own_us _ _ _))) ((own_un (by decide)).trans (own_us _ _ _)) ne33 ne30 G25_31) rfl (a := b24) G47_0 f0_106 (argsL := []) (rest := []) rfl rfl (lenOf pd_7 rfl) rfl (W := 0) (Nat.le_of_eq rfl) (by decide) (by decide) (by decide) (by decide) ?_
        intro v52 T52 L52 X52 q52
        obtain ⟨rfl, Nq52, K52, G52_0, G52_1, G52_2, G52_3, G52_4, G52_5, G52_6, G52_7, G52_8, G52_9, G52_10, G52_11, G52_12, G52_13⟩ := q52
        have q53 := (Nat.le_trans (Nat.le_trans (Nat.le_trans q36 K27.1) K37.1) K47.1)
        have N52 := Fr.app N47 Nq52
        show Go p e below s _ _ _ T52 (mkF m 109 #[.val (.int y1), .val (.int y2), .val (.int q0), .val (.int q1), .val (.int q2), .val (.int (2 : Int32)), .val (.int (2 : Int32)), .val (.ref b24), .val (.int (1 : Int32)), .val (.int (0 : Int32)), .unset] [(.int (Int32.ofInt 0))])
        refine wpop C X52 f0_109 rfl ?_
        refine wiload C X52 f0_110 rfl ?_
        refine wiconst C X52 f0_112 (3 : Int32) rfl ?_
        refine wicmp_lt C X52 f0_113 ?_ (fun q => absurd (by decide : ((2 : Int32) < (3 : Int32))) q)
        intro _
        refine waload C X52 f0_122 rfl rfl ?_
        have q55 := (Nat.le_trans (Nat.le_trans (Nat.le_trans q38 K37.1) K47.1) K52.1)
        refine wvirtual C X52 (y := (⟨"com/example/hornwork/hornwork/FibonacciHeap", "isEmpty", "()Z"⟩ : MethodName)) (z := (⟨"com/example/hornwork/hornwork/FibonacciHeap", "isEmpty", "()Z"⟩ : MethodName)) (tw_39 hw) (tw_40 hw) (notFace_of_selects (args := #[]) (mvT C.2.1 (tw_42 hw))) (tw_42 hw) (tw_41 hw) (tw_43 hw) (tw_3 hw) (by decide) (rm4_0 l Z a0 hw [] b24 T52.heap n0 q55 G52_11) rfl (a := b24) G52_0 f0_124 (argsL := []) (rest := []) rfl rfl (lenOf pd_5 rfl) rfl (W := 0) (Nat.le_of_eq rfl) (by decide) (by decide) (by decide) (by decide) ?_
        intro v54 T54 L54 X54 q54
        obtain ⟨rfl, Nq54, eq54⟩ := q54
        have N54 := Fr.app N52 Nq54
        show Go p e below s _ _ _ T54 (mkF m 127 #[.val (.int y1), .val (.int y2), .val (.int q0), .val (.int q1), .val (.int q2), .val (.int (2 : Int32)), .val (.int (2 : Int32)), .val (.ref b24), .val (.int (1 : Int32)), .val (.int (0 : Int32)), .unset] [(.int (1 : Int32))])
        refine wistore C X54 f0_127 #[.val (.int y1), .val (.int y2), .val (.int q0), .val (.int q1), .val (.int q2), .val (.int (2 : Int32)), .val (.int (2 : Int32)), .val (.ref b24), .val (.int (1 : Int32)), .val (.int (0 : Int32)), .val (.int (1 : Int32))] rfl ?_
        refine wiload C X54 f0_129 rfl ?_
        refine wif_eq C X54 f0_131 (fun q => absurd q (by decide : ¬ ((1 : Int32) = (0 : Int32)))) ?_
        intro _
        refine wiload C X54 f0_134 rfl ?_
        refine wiload C X54 f0_136 rfl ?_
        refine wif_ne C X54 f0_138 (fun q => absurd q (by decide : ¬ ((2 : Int32) = (0 : Int32)))) ?_
        intro _
        refine wiconst C X54 f0_145 (0 : Int32) rfl ?_
        refine wicmp_ne C X54 f0_146 ?_ (fun q => absurd (by decide : ((0 : Int32) = (0 : Int32))) q)
        intro _
        refine wiload C X54 f0_149 rfl ?_
        refine wiload C X54 f0_151 rfl ?_
        refine wiload C X54 f0_153 rfl ?_
        refine wicmp_ne C X54 f0_155 ?_ (fun q => absurd (by decide : ((2 : Int32) = (2 : Int32))) q)
        intro _
        refine wiconst C X54 f0_158 (1 : Int32) rfl ?_
        refine wgoto C X54 f0_159 ?_
        refine wicmp_ne C X54 f0_163 ?_ (fun q => absurd (by decide : ((1 : Int32) = (1 : Int32))) q)
        intro _
        refine wiconst C X54 f0_166 (1 : Int32) rfl ?_
        refine wgoto C X54 f0_167 ?_
        refine wiretN C X54 (t := .boolean) (by simp) f0_171 rfl (1 : Int32) (by decide) (by decide) (by decide) ?_
        rw [eq54]
        exact ⟨rfl, N54⟩
    · refine wiload C X37 f0_64 rfl ?_
      refine wiconst C X37 f0_66 (3 : Int32) rfl ?_
      refine wicmp_lt C X37 f0_67 ?_ (fun q => absurd (by decide : ((2 : Int32) < (3 : Int32))) q)
      intro _
      refine waload C X37 f0_79 rfl rfl ?_
      refine wvirtual C X37 (y := (⟨"com/example/hornwork/hornwork/FibonacciHeap", "isEmpty", "()Z"⟩ : MethodName)) (z := (⟨"com/example/hornwork/hornwork/FibonacciHeap", "isEmpty", "()Z"⟩ : MethodName)) (tw_39 hw) (tw_40 hw) (notFace_of_selects (args := #[]) (mvT C.2.1 (tw_42 hw))) (tw_42 hw) (tw_41 hw) (tw_43 hw) (tw_3 hw) (by decide) (rm4_1 l Z a0 hw [] b24 0 T37.heap n0 (Nat.le_trans q38 K37.1) G37_11 (by omega)) rfl (a := b24) G37_0 f0_81 (argsL := []) (rest := []) rfl rfl (lenOf pd_5 rfl) rfl (W := 0) (Nat.le_of_eq rfl) (by decide) (by decide) (by decide) (by decide) ?_
      intro v56 T56 L56 X56 q56
      obtain ⟨rfl, Nq56, eq56⟩ := q56
      have N56 := Fr.app N37 Nq56
      show Go p e below s _ _ _ T56 (mkF m 84 #[.val (.int y1), .val (.int y2), .val (.int q0), .val (.int q1), .val (.int q2), .val (.int (2 : Int32)), .val (.int mm), .val (.ref b24), .val (.int (1 : Int32)), .unset, .unset] [(.int (0 : Int32))])
      refine wistore C X56 f0_84 #[.val (.int y1), .val (.int y2), .val (.int q0), .val (.int q1), .val (.int q2), .val (.int (2 : Int32)), .val (.int mm), .val (.ref b24), .val (.int (1 : Int32)), .val (.int (0 : Int32)), .unset] rfl ?_
      rcases own_s2 hmm with rfl | rfl | rfl
      · refine wiload C X56 f0_86 rfl ?_
        refine wiconst C X56 f0_88 (1 : Int32) rfl ?_
        refine wicmp_lt C X56 f0_89 ?_ (fun q => absurd (by decide : ((0 : Int32) < (1 : Int32))) q)
        intro _
        refine wiload C X56 f0_98 rfl ?_
        refine wiconst C X56 f0_100 (2 : Int32) rfl ?_
        refine wicmp_lt C X56 f0_101 ?_ (fun q => absurd (by decide : ((0 : Int32) < (2 : Int32))) q)
        intro _
        refine wiload C X56 f0_110 rfl ?_
        refine wiconst C X56 f0_112 (3 : Int32) rfl ?_
        refine wicmp_lt C X56 f0_113 ?_ (fun q => absurd (by decide : ((0 : Int32) < (3 : Int32))) q)
        intro _
        refine waload C X56 f0_122 rfl rfl ?_
        refine wvirtual C X56 (y := (⟨"com/example/hornwork/hornwork/FibonacciHeap", "isEmpty", "()Z"⟩ : MethodName)) (z := (⟨"com/example/hornwork/hornwork/FibonacciHeap", "isEmpty", "()Z"⟩ : MethodName)) (tw_39 hw) (tw_40 hw) (notFace_of_selects (args := #[]) (mvT C.2.1 (tw_42 hw))) (tw_42 hw) (tw_41 hw) (tw_43 hw) (tw_3 hw) (by decide) (rm4_1 l Z a0 hw [] b24 0 T37.heap n0 (Nat.le_trans q38 K37.1) G37_11 (by omega)) eq56 (a := b24) G37_0 f0_124 (argsL := []) (rest := []) rfl rfl (lenOf pd_5 rfl) rfl (W := 0) (Nat.le_of_eq rfl) (by decide) (by decide) (by decide) (by decide) ?_
        intro v57 T57 L57 X57 q57
        obtain ⟨rfl, Nq57, eq57⟩ := q57
        have N57 := Fr.app N56 Nq57
        show Go p e below s _ _ _ T57 (mkF m 127 #[.val (.int y1), .val (.int y2), .val (.int q0), .val (.int q1), .val (.int q2), .val (.int (2 : Int32)), .val (.int (0 : Int32)), .val (.ref b24), .val (.int (1 : Int32)), .val (.int (0 : Int32)), .unset] [(.int (0 : Int32))])
        refine wistore C X57 f0_127 #[.val (.int y1), .val (.int y2), .val (.int q0), .val (.int q1), .val (.int q2), .val (.int (2 : Int32)), .val (.int (0 : Int32)), .val (.ref b24), .val (.int (1 : Int32)), .val (.int (0 : Int32)), .val (.int (0 : Int32))] rfl ?_
        refine wiload C X57 f0_129 rfl ?_
        refine wif_eq C X57 f0_131 (fun q => absurd q (by decide : ¬ ((1 : Int32) = (0 : Int32)))) ?_
        intro _
        refine wiload C X57 f0_134 rfl ?_
        refine wiload C X57 f0_136 rfl ?_
        refine wif_ne C X57 f0_138 (fun q => absurd q (by decide : ¬ ((2 : Int32) = (0 : Int32)))) ?_
        intro _
        refine wiconst C X57 f0_145 (0 : Int32) rfl ?_
        refine wicmp_ne C X57 f0_146 ?_ (fun q => absurd (by decide : ((0 : Int32) = (0 : Int32))) q)
        intro _
        refine wiload C X57 f0_149 rfl ?_
        refine wiload C X57 f0_151 rfl ?_
        refine wiload C X57 f0_153 rfl ?_
        refine wicmp_ne C X57 f0_155 (fun q => absurd q (by decide : ¬ ((0 : Int32) = (2 : Int32)))) ?_
        intro _
        refine wiconst C X57 f0_162 (0 : Int32) rfl ?_
        refine wicmp_ne C X57 f0_163 ?_ (fun q => absurd (by decide : ((0 : Int32) = (0 : Int32))) q)
        intro _
        refine wiconst C X57 f0_166 (1 : Int32) rfl ?_
        refine wgoto C X57 f0_167 ?_
        refine wiretN C X57 (t := .boolean) (by simp) f0_171 rfl (1 : Int32) (by decide) (by decide) (by decide) ?_
        rw [eq57]
        exact ⟨rfl, N57⟩
      · refine wiload C X56 f0_86 rfl ?_
        refine wiconst C X56 f0_88 (1 : Int32) rfl ?_
        refine wicmp_lt C X56 f0_89 (fun q => absurd q (by decide : ¬ ((1 : Int32) < (1 : Int32)))) ?_
        intro _
        refine waload C X56 f0_92 rfl rfl ?_
        have ne59 : b24 ≠ ro_25 := (Nat.ne_of_lt (Nat.lt_of_lt_of_le A24.lt G25_8))
        have q60 := ((G25_75.keep K27 (ninS (Ne.symm G25_17) (ninS (Ne.symm G25_25) (ninS (Ne.symm G25_32) (ninS (Ne.symm G25_47) (ninS (Ne.symm G25_50) (ninS (Ne.symm G25_52) (ninS (Ne.symm G25_43) (ninS (Ne.symm G25_38) (ninS (Ne.symm ne59) nin0)))))))))).keep K37 (ninS (Ne.symm G25_17) (ninS (Ne.symm G25_25) (ninS (Ne.symm G25_32) (ninS (Ne.symm G25_47) (ninS (Ne.symm G25_50) (ninS (Ne.symm G25_52) (ninS (Ne.symm G25_43) (ninS (Ne.symm G25_38) (ninS (Ne.symm ne59) nin0))))))))))
        have ne61 : b24 ≠ rd_25 := (Nat.ne_of_lt (Nat.lt_of_lt_of_le A24.lt G25_9))
        have q62 := ((G25_76.keep K27 (ninS (Ne.symm G25_18) (ninS (Ne.symm G25_26) (ninS (Ne.symm G25_33) (ninS (Ne.symm G25_48) (ninS (Ne.symm G25_51) (ninS (Ne.symm G25_53) (ninS (Ne.symm G25_44) (ninS (Ne.symm G25_39) (ninS (Ne.symm ne61) nin0)))))))))).keep K37 (ninS (Ne.symm G25_18) (ninS (Ne.symm G25_26) (ninS (Ne.symm G25_33) (ninS (Ne.symm G25_48) (ninS (Ne.symm G25_51) (ninS (Ne.symm G25_53) (ninS (Ne.symm G25_44) (ninS (Ne.symm G25_39) (ninS (Ne.symm ne61) nin0))))))))))
        refine wvirtual C X56 (y := (⟨"com/example/hornwork/hornwork/FibonacciHeap", "removeLeast", "()I"⟩ : MethodName)) (z := (⟨"com/example/hornwork/hornwork/FibonacciHeap", "removeLeast", "()I"⟩ : MethodName)) (tw_61 hw) (tw_62 hw) (notFace_of_selects (args := #[]) (mvT C.2.1 (tw_64 hw))) (tw_64 hw) (tw_63 hw) (tw_65 hw) (tw_3 hw) (by decide) (rm9_B l Z a0 hw [] b24 ky_25 pa_25 ch_25 le_25 ri_25 de_25 mk_25 co_25 ro_25 rd_25 kri_25 kle_25 kch_25 kco_25 kde_25 kro_25 krd_25 (own_upd (own_upd (own_upd (own_upd (fun _ => 0) 0 0) 1 1) 0 1) 1 0) (own_upd (own_upd (own_upd (own_upd (fun _ => 0) 0 0) 1 1) 1 0) 0 1) (own_upd (own_upd (fun _ => 0) 0 (-1)) 1 (-1)) (own_upd (own_upd (fun _ => 0) 0 1) 1 1) (own_upd (own_upd (fun _ => 0) 0 0) 1 0) (fun _ => 0) RD_25 0 1 T37.heap n0 (Nat.le_trans q38 K37.1) G37_0 G37_1 G37_2 G37_3 G37_4 G37_5 G37_6 G37_7 G37_8 G37_9 G37_10 G37_11 G37_18 G37_19 G37_14 G37_17 G37_15 q60 q62 (Nat.le_trans Z0 sz24) (Nat.le_trans Z0 szG25_4) (Nat.le_trans Z0 szG25_3) (Nat.le_trans Z0 szG25_2) (Nat.le_trans Z0 szG25_7) (Nat.le_trans Z0 szG25_5) (Nat.le_trans Z0 szG25_8) (Nat.le_trans Z0 szG25_9) (by omega) (by omega) (by omega) ((own_un (by decide)).trans (own_us _ _ _)) ((own_un (by decide)).trans (own_us _ _ _)) (own_us _ _ _) (own_us _ _ _) (G25_77 0 (by decide)) ne35 G25_34 ne34 (Ne.symm G25_35) (Ne.symm G25_40) G25_38 G25_43 G25_39 (Ne.symm G25_44) ne59 G25_47 (Ne.symm G25_54) ne61 (Ne.symm G25_37) (Ne.symm G25_42) ne33 G25_53 G25_52 G25_27 G25_28 ne30 G25_33 G25_32 G25_31) eq56 (a := b24) G37_0 f0_94 (argsL := []) (rest := []) rfl rfl (lenOf pd_7 rfl) rfl (W := 0) (Nat.le_of_eq rfl) (by decide) (by decide) (by decide) (by decide) ?_
        intro v58 T58 L58 X58 q58
        obtain ⟨rfl, Nq58, K58, G58_0, G58_1, G58_2, G58_3, G58_4, G58_5, G58_6, G58_7, G58_8, G58_9, G58_10, G58_11, G58_12, G58_13, G58_14, G58_15, G58_16, G58_17⟩ := q58
        have N58 := Fr.app N56 Nq58
        show Go p e below s _ _ _ T58 (mkF m 97 #[.val (.int y1), .val (.int y2), .val (.int q0), .val (.int q1), .val (.int q2), .val (.int (2 : Int32)), .val (.int (1 : Int32)), .val (.ref b24), .val (.int (1 : Int32)), .val (.int (0 : Int32)), .unset] [(.int (Int32.ofInt 0))])
        refine wpop C X58 f0_97 rfl ?_
        refine wiload C X58 f0_98 rfl ?_
        refine wiconst C X58 f0_100 (2 : Int32) rfl ?_
        refine wicmp_lt C X58 f0_101 ?_ (fun q => absurd (by decide : ((1 : Int32) < (2 : Int32))) q)
        intro _
        refine wiload C X58 f0_110 rfl ?_
        refine wiconst C X58 f0_112 (3 : Int32) rfl ?_
        refine wicmp_lt C X58 f0_113 ?_ (fun q => absurd (by decide : ((1 : Int32) < (3 : Int32))) q)
        intro _
        refine waload C X58 f0_122 rfl rfl ?_
        refine wvirtual C X58 (y := (⟨"com/example/hornwork/hornwork/FibonacciHeap", "isEmpty", "()Z"⟩ : MethodName)) (z := (⟨"com/example/hornwork/hornwork/FibonacciHeap", "isEmpty", "()Z"⟩ : MethodName)) (tw_39 hw) (tw_40 hw) (notFace_of_selects (args := #[]) (mvT C.2.1 (tw_42 hw))) (tw_42 hw) (tw_41 hw) (tw_43 hw) (tw_3 hw) (by decide) (rm4_1 l Z a0 hw [] b24 1 T58.heap n0 (Nat.le_trans (Nat.le_trans q38 K37.1) K58.1) G58_11 (by omega)) rfl (a := b24) G58_0 f0_124 (argsL := []) (rest := []) rfl rfl (lenOf pd_5 rfl) rfl (W := 0) (Nat.le_of_eq rfl) (by decide) (by decide) (by decide) (by decide) ?_
        intro v63 T63 L63 X63 q63
        obtain ⟨rfl, Nq63, eq63⟩ := q63
        have N63 := Fr.app N58 Nq63
        show Go p e below s _ _ _ T63 (mkF m 127 #[.val (.int y1), .val (.int y2), .val (.int q0), .val (.int q1), .val (.int q2), .val (.int (2 : Int32)), .val (.int (1 : Int32)), .val (.ref b24), .val (.int (1 : Int32)), .val (.int (0 : Int32)), .unset] [(.int (0 : Int32))])
        refine wistore C X63 f0_127 #[.val (.int y1), .val (.int y2), .val (.int q0), .val (.int q1), .val (.int q2), .val (.int (2 : Int32)), .val (.int (1 : Int32)), .val (.ref b24), .val (.int (1 : Int32)), .val (.int (0 : Int32)), .val (.int (0 : Int32))] rfl ?_
        refine wiload C X63 f0_129 rfl ?_
        refine wif_eq C X63 f0_131 (fun q => absurd q (by decide : ¬ ((1 : Int32) = (0 : Int32)))) ?_
        intro _
        refine wiload C X63 f0_134 rfl ?_
        refine wiload C X63 f0_136 rfl ?_
        refine wif_ne C X63 f0_138 (fun q => absurd q (by decide : ¬ ((2 : Int32) = (0 : Int32)))) ?_
        intro _
        refine wiconst C X63 f0_145 (0 : Int32) rfl ?_
        refine wicmp_ne C X63 f0_146 ?_ (fun q => absurd (by decide : ((0 : Int32) = (0 : Int32))) q)
        intro _
        refine wiload C X63 f0_149 rfl ?_
        refine wiload C X63 f0_151 rfl ?_
        refine wiload C X63 f0_153 rfl ?_
        refine wicmp_ne C X63 f0_155 (fun q => absurd q (by decide : ¬ ((1 : Int32) = (2 : Int32)))) ?_
        intro _
        refine wiconst C X63 f0_162 (0 : Int32) rfl ?_
        refine wicmp_ne C X63 f0_163 ?_ (fun q => absurd (by decide : ((0 : Int32) = (0 : Int32))) q)
        intro _
        refine wiconst C X63 f0_166 (1 : Int32) rfl ?_
        refine wgoto C X63 f0_167 ?_
        refine wiretN C X63 (t := .boolean) (by simp) f0_171 rfl (1 : Int32) (by decide) (by decide) (by decide) ?_
        rw [eq63]
        exact ⟨rfl, N63⟩
      · refine wiload C X56 f0_86 rfl ?_
        refine wiconst C X56 f0_88 (1 : Int32) rfl ?_
        refine wicmp_lt C X56 f0_89 (fun q => absurd q (by decide : ¬ ((2 : Int32) < (1 : Int32)))) ?_
        intro _
        refine waload C X56 f0_92 rfl rfl ?_
        have ne65 : b24 ≠ ro_25 := (Nat.ne_of_lt (Nat.lt_of_lt_of_le A24.lt G25_8))
        have q66 := ((G25_75.keep K27 (ninS (Ne.symm G25_17) (ninS (Ne.symm G25_25) (ninS (Ne.symm G25_32) (ninS (Ne.symm G25_47) (ninS (Ne.symm G25_50) (ninS (Ne.symm G25_52) (ninS (Ne.symm G25_43) (ninS (Ne.symm G25_38) (ninS (Ne.symm ne65) nin0)))))))))).keep K37 (ninS (Ne.symm G25_17) (ninS (Ne.symm G25_25) (ninS (Ne.symm G25_32) (ninS (Ne.symm G25_47) (ninS (Ne.symm G25_50) (ninS (Ne.symm G25_52) (ninS (Ne.symm G25_43) (ninS (Ne.symm G25_38) (ninS (Ne.symm ne65) nin0))))))))))
        have ne67 : b24 ≠ rd_25 := (Nat.ne_of_lt (Nat.lt_of_lt_of_le A24.lt G25_9))
        have q68 := ((G25_76.keep K27 (ninS (Ne.symm G25_18) (ninS (Ne.symm G25_26) (ninS (Ne.symm G25_33) (ninS (Ne.symm G25_48) (ninS (Ne.symm G25_51) (ninS (Ne.symm G25_53) (ninS (Ne.symm G25_44) (ninS (Ne.symm G25_39) (ninS (Ne.symm ne67) nin0)))))))))).keep K37 (ninS (Ne.symm G25_18) (ninS (Ne.symm G25_26) (ninS (Ne.symm G25_33) (ninS (Ne.symm G25_48) (ninS (Ne.symm G25_51) (ninS (Ne.symm G25_53) (ninS (Ne.symm G25_44) (ninS (Ne.symm G25_39) (ninS (Ne.symm ne67) nin0))))))))))
        refine wvirtual C X56 (y := (⟨"com/example/hornwork/hornwork/FibonacciHeap", "removeLeast", "()I"⟩ : MethodName)) (z := (⟨"com/example/hornwork/hornwork/FibonacciHeap", "removeLeast", "()I"⟩ : MethodName)) (tw_61 hw) (tw_62 hw) (notFace_of_selects (args := #[]) (mvT C.2.1 (tw_64 hw))) (tw_64 hw) (tw_63 hw) (tw_65 hw) (tw_3 hw) (by decide) (rm9_B l Z a0 hw [] b24 ky_25 pa_25 ch_25 le_25 ri_25 de_25 mk_25 co_25 ro_25 rd_25 kri_25 kle_25 kch_25 kco_25 kde_25 kro_25 krd_25 (own_upd (own_upd (own_upd (own_upd (fun _ => 0) 0 0) 1 1) 0 1) 1 0) (own_upd (own_upd (own_upd (own_upd (fun _ => 0) 0 0) 1 1) 1 0) 0 1) (own_upd (own_upd (fun _ => 0) 0 (-1)) 1 (-1)) (own_upd (own_upd (fun _ => 0) 0 1) 1 1) (own_upd (own_upd (fun _ => 0) 0 0) 1 0) (fun _ => 0) RD_25 0 1 T37.heap n0 (Nat.le_trans q38 K37.1) G37_0 G37_1 G37_2 G37_3 G37_4 G37_5 G37_6 G37_7 G37_8 G37_9 G37_10 G37_11 G37_18 G37_19 G37_14 G37_17 G37_15 q66 q68 (Nat.le_trans Z0 sz24) (Nat.le_trans Z0 szG25_4) (Nat.le_trans Z0 szG25_3) (Nat.le_trans Z0 szG25_2) (Nat.le_trans Z0 szG25_7) (Nat.le_trans Z0 szG25_5) (Nat.le_trans Z0 szG25_8) (Nat.le_trans Z0 szG25_9) (by omega) (by omega) (by omega) ((own_un (by decide)).trans (own_us _ _ _)) ((own_un (by decide)).trans (own_us _ _ _)) (own_us _ _ _) (own_us _ _ _) (G25_77 0 (by decide)) ne35 G25_34 ne34 (Ne.symm G25_35) (Ne.symm G25_40) G25_38 G25_43 G25_39 (Ne.symm G25_44) ne65 G25_47 (Ne.symm G25_54) ne67 (Ne.symm G25_37) (Ne.symm G25_42) ne33 G25_53 G25_52 G25_27 G25_28 ne30 G25_33 G25_32 G25_31) eq56 (a := b24) G37_0 f0_94 (argsL := []) (rest := []) rfl rfl (lenOf pd_7 rfl) rfl (W := 0) (Nat.le_of_eq rfl) (by decide) (by decide) (by decide) (by decide) ?_
        intro v64 T64 L64 X64 q64
        obtain ⟨rfl, Nq64, K64, G64_0, G64_1, G64_2, G64_3, G64_4, G64_5, G64_6, G64_7, G64_8, G64_9, G64_10, G64_11, G64_12, G64_13, G64_14, G64_15, G64_16, G64_17⟩ := q64
        have N64 := Fr.app N56 Nq64
        show Go p e below s _ _ _ T64 (mkF m 97 #[.val (.int y1), .val (.int y2), .val (.int q0), .val (.int q1), .val (.int q2), .val (.int (2 : Int32)), .val (.int (2 : Int32)), .val (.ref b24), .val (.int (1 : Int32)), .val (.int (0 : Int32)), .unset] [(.int (Int32.ofInt 0))])
        refine wpop C X64 f0_97 rfl ?_
        refine wiload C X64 f0_98 rfl ?_
        refine wiconst C X64 f0_100 (2 : Int32) rfl ?_
        refine wicmp_lt C X64 f0_101 (fun q => absurd q (by decide : ¬ ((2 : Int32) < (2 : Int32)))) ?_
        intro _
        refine waload C X64 f0_104 rfl rfl ?_
        refine wvirtual C X64 (y := (⟨"com/example/hornwork/hornwork/FibonacciHeap", "removeLeast", "()I"⟩ : MethodName)) (z := (⟨"com/example/hornwork/hornwork/FibonacciHeap", "removeLeast", "()I"⟩ : MethodName)) (tw_61 hw) (tw_62 hw) (notFace_of_selects (args := #[]) (mvT C.2.1 (tw_64 hw))) (tw_64 hw) (tw_63 hw) (tw_65 hw) (tw_3 hw) (by decide) (rm9_A l Z a0 hw [] b24 ky_25 pa_25 ch_25 le_25 ri_25 de_25 mk_25 co_25 ro_25 rd_25 kri_25 kch_25 kco_25 (own_upd (own_upd (own_upd (own_upd (own_upd (own_upd (fun _ => 0) 0 0) 1 1) 0 1) 1 0) 1 1) 0 0) (own_upd (own_upd (own_upd (fun _ => 0) 0 (-1)) 1 (-1)) 0 (-1)) (own_upd (own_upd (own_upd (fun _ => 0) 0 1) 1 1) 0 0) 1 T64.heap n0 (Nat.le_trans (Nat.le_trans q38 K37.1) K64.1) G64_0 G64_1 G64_2 G64_3 G64_4 G64_5 G64_6 G64_7 G64_8 G64_9 G64_10 G64_11 G64_12 G64_14 G64_15 (Nat.le_trans Z0 sz24) (Nat.le_trans Z0 szG25_4) (Nat.le_trans Z0 szG25_2) (Nat.le_trans Z0 szG25_7) (by omega) ((own_un (by decide)).trans (own_us _ _ _)) ((own_un (by decide)).trans (own_us _ _ _)) ne33 ne30 G25_31) rfl (a := b24) G64_0 f0_106 (argsL := []) (rest := []) rfl rfl (lenOf pd_7 rfl) rfl (W := 0) (Nat.le_of_eq rfl) (by decide) (by decide) (by decide) (by decide) ?_
        intro v69 T69 L69 X69 q69
        obtain ⟨rfl, Nq69, K69, G69_0, G69_1, G69_2, G69_3, G69_4, G69_5, G69_6, G69_7, G69_8, G69_9, G69_10, G69_11, G69_12, G69_13⟩ := q69
        have q70 := (Nat.le_trans (Nat.le_trans (Nat.le_trans q36 K27.1) K37.1) K64.1)
        have N69 := Fr.app N64 Nq69
        show Go p e below s _ _ _ T69 (mkF m 109 #[.val (.int y1), .val (.int y2), .val (.int q0), .val (.int q1), .val (.int q2), .val (.int (2 : Int32)), .val (.int (2 : Int32)), .val (.ref b24), .val (.int (1 : Int32)), .val (.int (0 : Int32)), .unset] [(.int (Int32.ofInt 1))])
        refine wpop C X69 f0_109 rfl ?_
        refine wiload C X69 f0_110 rfl ?_
        refine wiconst C X69 f0_112 (3 : Int32) rfl ?_
        refine wicmp_lt C X69 f0_113 ?_ (fun q => absurd (by decide : ((2 : Int32) < (3 : Int32))) q)
        intro _
        refine waload C X69 f0_122 rfl rfl ?_
        have q72 := (Nat.le_trans (Nat.le_trans (Nat.le_trans q38 K37.1) K64.1) K69.1)
        refine wvirtual C X69 (y := (⟨"com/example/hornwork/hornwork/FibonacciHeap", "isEmpty", "()Z"⟩ : MethodName)) (z := (⟨"com/example/hornwork/hornwork/FibonacciHeap", "isEmpty", "()Z"⟩ : MethodName)) (tw_39 hw) (tw_40 hw) (notFace_of_selects (args := #[]) (mvT C.2.1 (tw_42 hw))) (tw_42 hw) (tw_41 hw) (tw_43 hw) (tw_3 hw) (by decide) (rm4_0 l Z a0 hw [] b24 T69.heap n0 q72 G69_11) rfl (a := b24) G69_0 f0_124 (argsL := []) (rest := []) rfl rfl (lenOf pd_5 rfl) rfl (W := 0) (Nat.le_of_eq rfl) (by decide) (by decide) (by decide) (by decide) ?_
        intro v71 T71 L71 X71 q71
        obtain ⟨rfl, Nq71, eq71⟩ := q71
        have N71 := Fr.app N69 Nq71
        show Go p e below s _ _ _ T71 (mkF m 127 #[.val (.int y1), .val (.int y2), .val (.int q0), .val (.int q1), .val (.int q2), .val (.int (2 : Int32)), .val (.int (2 : Int32)), .val (.ref b24), .val (.int (1 : Int32)), .val (.int (0 : Int32)), .unset] [(.int (1 : Int32))])
        refine wistore C X71 f0_127 #[.val (.int y1), .val (.int y2), .val (.int q0), .val (.int q1), .val (.int q2), .val (.int (2 : Int32)), .val (.int (2 : Int32)), .val (.ref b24), .val (.int (1 : Int32)), .val (.int (0 : Int32)), .val (.int (1 : Int32))] rfl ?_
        refine wiload C X71 f0_129 rfl ?_
        refine wif_eq C X71 f0_131 (fun q => absurd q (by decide : ¬ ((1 : Int32) = (0 : Int32)))) ?_
        intro _
        refine wiload C X71 f0_134 rfl ?_
        refine wiload C X71 f0_136 rfl ?_
        refine wif_ne C X71 f0_138 (fun q => absurd q (by decide : ¬ ((2 : Int32) = (0 : Int32)))) ?_
        intro _
        refine wiconst C X71 f0_145 (0 : Int32) rfl ?_
        refine wicmp_ne C X71 f0_146 ?_ (fun q => absurd (by decide : ((0 : Int32) = (0 : Int32))) q)
        intro _
        refine wiload C X71 f0_149 rfl ?_
        refine wiload C X71 f0_151 rfl ?_
        refine wiload C X71 f0_153 rfl ?_
        refine wicmp_ne C X71 f0_155 ?_ (fun q => absurd (by decide : ((2 : Int32) = (2 : Int32))) q)
        intro _
        refine wiconst C X71 f0_158 (1 : Int32) rfl ?_
        refine wgoto C X71 f0_159 ?_
        refine wicmp_ne C X71 f0_163 ?_ (fun q => absurd (by decide : ((1 : Int32) = (1 : Int32))) q)
        intro _
        refine wiconst C X71 f0_166 (1 : Int32) rfl ?_
        refine wgoto C X71 f0_167 ?_
        refine wiretN C X71 (t := .boolean) (by simp) f0_171 rfl (1 : Int32) (by decide) (by decide) (by decide) ?_
        rw [eq71]
        exact ⟨rfl, N71⟩
  · refine wnew C X0 (tw_1 hw) (tw_2 hw) (tw_3 hw) e0 f0_19 (by decide) (by decide) ?_
    intro T73 h73 b73 g73 X73 e73 E73 A73 D73
    have sz73 : h0.size ≤ b73 := Nat.le_trans (Nat.le_refl h0.size) (Nat.le_of_eq g73.symm)
    have F73_rootOfDegree : Fld Z h73 b73 "com/example/hornwork/hornwork/FibonacciHeap" "rootOfDegree" "[I" .null := D73 (Or.inr (tw_12 hw)) (ty := (.array .int)) (by decide)
    have F73_least : Fld Z h73 b73 "com/example/hornwork/hornwork/FibonacciHeap" "least" "I" (.int (0 : Int32)) := D73 (Or.inl (tw_14 hw)) (ty := .int) (by decide)
    have F73_key : Fld Z h73 b73 "com/example/hornwork/hornwork/FibonacciHeap" "key" "[D" .null := D73 (Or.inr (tw_17 hw)) (ty := (.array .double)) (by decide)
    have F73_parent : Fld Z h73 b73 "com/example/hornwork/hornwork/FibonacciHeap" "parent" "[I" .null := D73 (Or.inr (tw_19 hw)) (ty := (.array .int)) (by decide)
    have F73_child : Fld Z h73 b73 "com/example/hornwork/hornwork/FibonacciHeap" "child" "[I" .null := D73 (Or.inr (tw_21 hw)) (ty := (.array .int)) (by decide)
    have F73_left : Fld Z h73 b73 "com/example/hornwork/hornwork/FibonacciHeap" "left" "[I" .null := D73 (Or.inr (tw_23 hw)) (ty := (.array .int)) (by decide)
    have F73_right : Fld Z h73 b73 "com/example/hornwork/hornwork/FibonacciHeap" "right" "[I" .null := D73 (Or.inr (tw_25 hw)) (ty := (.array .int)) (by decide)
    have F73_degree : Fld Z h73 b73 "com/example/hornwork/hornwork/FibonacciHeap" "degree" "[I" .null := D73 (Or.inr (tw_27 hw)) (ty := (.array .int)) (by decide)
    have F73_marked : Fld Z h73 b73 "com/example/hornwork/hornwork/FibonacciHeap" "marked" "[Z" .null := D73 (Or.inr (tw_30 hw)) (ty := (.array .boolean)) (by decide)
    have F73_contained : Fld Z h73 b73 "com/example/hornwork/hornwork/FibonacciHeap" "contained" "[Z" .null := D73 (Or.inr (tw_32 hw)) (ty := (.array .boolean)) (by decide)
    have F73_roots : Fld Z h73 b73 "com/example/hornwork/hornwork/FibonacciHeap" "roots" "[I" .null := D73 (Or.inr (tw_34 hw)) (ty := (.array .int)) (by decide)
    refine wdup C X73 f0_22 rfl ?_
    refine wiconst C X73 f0_23 (3 : Int32) rfl ?_
    refine wspecial C X73 (y := (⟨"com/example/hornwork/hornwork/FibonacciHeap", "<init>", "(I)V"⟩ : MethodName)) rfl (tw_4 hw) (tw_5 hw) (tw_6 hw) (tw_3 hw) rfl (by decide) (rm1 l Z a0 hw [] b73 (3 : Int32) h73 n0 (Nat.le_trans Z0 E73.1) A73 F73_key F73_parent F73_child F73_left F73_right F73_degree F73_marked F73_contained F73_roots F73_rootOfDegree F73_least (Nat.le_trans Z0 sz73) rfl) e73 f0_24 (a := b73) (argsL := [(.int (3 : Int32))]) (rest := [(.ref b73)]) rfl rfl (lenOf pd_0 rfl) rfl (W := 1) (Nat.le_of_eq rfl) (by decide) (by decide) (by decide) (by decide) ?_
    intro v74 T74 L74 X74 q74
    obtain ⟨ky_74, pa_74, ch_74, le_74, ri_74, de_74, mk_74, co_74, ro_74, rd_74, kky_74, kpa_74, kch_74, kle_74, kri_74, kde_74, kmk_74, kco_74, kro_74, krd_74, RD_74, rfl, Nq74, K74, G74_0, G74_1, G74_2, G74_3, G74_4, G74_5, G74_6, G74_7, G74_8, G74_9, G74_10, G74_11, G74_12, G74_13, G74_14, G74_15, G74_16, G74_17, G74_18, G74_19, G74_20, G74_21, G74_22, G74_23, G74_24, G74_25, G74_26, G74_27, G74_28, G74_29, G74_30, G74_31, G74_32, G74_33, G74_34, G74_35, G74_36, G74_37, G74_38, G74_39, G74_40, G74_41, G74_42, G74_43, G74_44, G74_45, G74_46, G74_47, G74_48, G74_49, G74_50, G74_51, G74_52, G74_53, G74_54, G74_55, G74_56, G74_57, G74_58, G74_59, G74_60, G74_61, G74_62, G74_63, G74_64, G74_65, G74_66, G74_67, G74_68, G74_69, G74_70, G74_71, G74_72, G74_73, G74_74, G74_75, G74_76, G74_77⟩ := q74
    have szG74_0 : h0.size ≤ ky_74 := Nat.le_trans (Nat.le_trans (Nat.le_refl h0.size) E73.1) G74_0
    have szG74_1 : h0.size ≤ pa_74 := Nat.le_trans (Nat.le_trans (Nat.le_refl h0.size) E73.1) G74_1
    have szG74_2 : h0.size ≤ ch_74 := Nat.le_trans (Nat.le_trans (Nat.le_refl h0.size) E73.1) G74_2
    have szG74_3 : h0.size ≤ le_74 := Nat.le_trans (Nat.le_trans (Nat.le_refl h0.size) E73.1) G74_3
    have szG74_4 : h0.size ≤ ri_74 := Nat.le_trans (Nat.le_trans (Nat.le_refl h0.size) E73.1) G74_4
    have szG74_5 : h0.size ≤ de_74 := Nat.le_trans (Nat.le_trans (Nat.le_refl h0.size) E73.1) G74_5
    have szG74_6 : h0.size ≤ mk_74 := Nat.le_trans (Nat.le_trans (Nat.le_refl h0.size) E73.1) G74_6
    have szG74_7 : h0.size ≤ co_74 := Nat.le_trans (Nat.le_trans (Nat.le_refl h0.size) E73.1) G74_7
    have szG74_8 : h0.size ≤ ro_74 := Nat.le_trans (Nat.le_trans (Nat.le_refl h0.size) E73.1) G74_8
    have szG74_9 : h0.size ≤ rd_74 := Nat.le_trans (Nat.le_trans (Nat.le_refl h0.size) E73.1) G74_9
    have N74 := Fr.app N0 Nq74
    show Go p e below s _ _ _ T74 (mkF m 27 #[.val (.int y1), .val (.int y2), .val (.int q0), .val (.int q1), .val (.int q2), .val (.int (3 : Int32)), .val (.int mm), .unset, .unset, .unset, .unset] [(.ref b73)])
    refine wastore C X74 f0_27 #[.val (.int y1), .val (.int y2), .val (.int q0), .val (.int q1), .val (.int q2), .val (.int (3 : Int32)), .val (.int mm), .val (.ref b73), .unset, .unset, .unset] rfl rfl ?_
    refine waload C X74 f0_29 rfl rfl ?_
    refine wvirtual C X74 (y := (⟨"com/example/hornwork/hornwork/FibonacciHeap", "isEmpty", "()Z"⟩ : MethodName)) (z := (⟨"com/example/hornwork/hornwork/FibonacciHeap", "isEmpty", "()Z"⟩ : MethodName)) (tw_39 hw) (tw_40 hw) (notFace_of_selects (args := #[]) (mvT C.2.1 (tw_42 hw))) (tw_42 hw) (tw_41 hw) (tw_43 hw) (tw_3 hw) (by decide) (rm4_0 l Z a0 hw [] b73 T74.heap n0 (Nat.le_trans (Nat.le_trans Z0 E73.1) K74.1) G74_66) rfl (a := b73) G74_55 f0_31 (argsL := []) (rest := []) rfl rfl (lenOf pd_5 rfl) rfl (W := 0) (Nat.le_of_eq rfl) (by decide) (by decide) (by decide) (by decide) ?_
    intro v75 T75 L75 X75 q75
    obtain ⟨rfl, Nq75, eq75⟩ := q75
    have N75 := Fr.app N74 Nq75
    show Go p e below s _ _ _ T75 (mkF m 34 #[.val (.int y1), .val (.int y2), .val (.int q0), .val (.int q1), .val (.int q2), .val (.int (3 : Int32)), .val (.int mm), .val (.ref b73), .unset, .unset, .unset] [(.int (1 : Int32))])
    refine wistore C X75 f0_34 #[.val (.int y1), .val (.int y2), .val (.int q0), .val (.int q1), .val (.int q2), .val (.int (3 : Int32)), .val (.int mm), .val (.ref b73), .val (.int (1 : Int32)), .unset, .unset] rfl ?_
    refine wiload C X75 f0_36 rfl ?_
    refine wiconst C X75 f0_38 (1 : Int32) rfl ?_
    refine wicmp_lt C X75 f0_39 (fun q => absurd q (by decide : ¬ ((3 : Int32) < (1 : Int32)))) ?_
    intro _
    refine waload C X75 f0_42 rfl rfl ?_
    refine wiconst C X75 f0_44 (0 : Int32) rfl ?_
    refine own_foldI (z := (Int32.ofInt 0)) (by decide) ?_
    refine wiloadN C X75 f0_45 rfl ?_
    refine wi2d C X75 f0_46 ?_
    have ne77 : b73 ≠ ky_74 := (Nat.ne_of_lt (Nat.lt_of_lt_of_le A73.lt G74_0))
    have ne78 : b73 ≠ pa_74 := (Nat.ne_of_lt (Nat.lt_of_lt_of_le A73.lt G74_1))
    have ne79 : b73 ≠ ch_74 := (Nat.ne_of_lt (Nat.lt_of_lt_of_le A73.lt G74_2))
    have ne80 : b73 ≠ de_74 := (Nat.ne_of_lt (Nat.lt_of_lt_of_le A73.lt G74_5))
    have ne81 : b73 ≠ mk_74 := (Nat.ne_of_lt (Nat.lt_of_lt_of_le A73.lt G74_6))
    have ne82 : b73 ≠ co_74 := (Nat.ne_of_lt (Nat.lt_of_lt_of_le A73.lt G74_7))
    have ne83 : b73 ≠ le_74 := (Nat.ne_of_lt (Nat.lt_of_lt_of_le A73.lt G74_3))
    have ne84 : b73 ≠ ri_74 := (Nat.ne_of_lt (Nat.lt_of_lt_of_le A73.lt G74_4))
    refine wvirtual C X75 (y := (⟨"com/example/hornwork/hornwork/FibonacciHeap", "insert", "(ID)V"⟩ : MethodName)) (z := (⟨"com/example/hornwork/hornwork/FibonacciHeap", "insert", "(ID)V"⟩ : MethodName)) (tw_44 hw) (tw_45 hw) (notFace_of_selects (args := #[]) (mvT C.2.1 (tw_47 hw))) (tw_47 hw) (tw_46 hw) (tw_48 hw) (tw_3 hw) (by decide) (rm5_0 l Z a0 hw [] b73 0 (FP.i2d q0) ky_74 pa_74 ch_74 le_74 ri_74 de_74 mk_74 co_74 ro_74 rd_74 kky_74 kpa_74 kch_74 kde_74 kmk_74 kco_74 kri_74 kle_74 (fun _ => 0) (fun _ => 0) (fun _ => 0) (fun _ => 0) (fun _ => 0) (fun _ => 0) (fun _ => 0) (fun _ => 0) T74.heap n0 (Nat.le_trans (Nat.le_trans Z0 E73.1) K74.1) G74_55 G74_56 G74_57 G74_58 G74_59 G74_60 G74_61 G74_62 G74_63 G74_64 G74_65 G74_66 G74_67 G74_68 G74_69 G74_72 G74_73 G74_74 G74_71 G74_70 (Nat.le_trans Z0 sz73) (Nat.le_trans Z0 szG74_0) (Nat.le_trans Z0 szG74_1) (Nat.le_trans Z0 szG74_2) (Nat.le_trans Z0 szG74_5) (Nat.le_trans Z0 szG74_6) (Nat.le_trans Z0 szG74_7) (Nat.le_trans Z0 szG74_4) (Nat.le_trans Z0 szG74_3) (by omega) ne77 G74_10 ne78 (Ne.symm G74_11) (Ne.symm G74_19) ne79 (Ne.symm G74_14) (Ne.symm G74_22) G74_29 ne80 G74_15 (Ne.symm G74_23) G74_30 G74_45 ne81 (Ne.symm G74_16) (Ne.symm G74_24) G74_31 (Ne.symm G74_46) (Ne.symm G74_49) ne82 G74_13 G74_21 G74_28 (Ne.symm G74_40) (Ne.symm G74_41) (Ne.symm G74_42) G74_12 (Ne.symm G74_20) G74_27 (Ne.symm G74_35) G74_36 (Ne.symm G74_37) ne83 G74_34 ne84) eq75 (a := b73) G74_55 f0_47 (argsL := [(.int (Int32.ofInt 0)), (.double (FP.i2d q0))]) (rest := []) rfl rfl (lenOf pd_6 rfl) rfl (W := 0) (Nat.le_of_eq rfl) (by decide) (by decide) (by decide) (by decide) ?_
    intro v76 T76 L76 X76 q76
    obtain ⟨rfl, Nq76, K76, G76_0, G76_1, G76_2, G76_3, G76_4, G76_5, G76_6, G76_7, G76_8, G76_9, G76_10, G76_11, G76_12, G76_13, G76_14, G76_15, G76_16, G76_17, G76_18, G76_19⟩ := q76
    have q85 := (Nat.le_trans (Nat.le_trans (Nat.le_refl h0.size) E73.1) K74.1)
    have N76 := Fr.app N75 Nq76
    show Go p e below s _ _ _ T76 (mkF m 50 #[.val (.int y1), .val (.int y2), .val (.int q0), .val (.int q1), .val (.int q2), .val (.int (3 : Int32)), .val (.int mm), .val (.ref b73), .val (.int (1 : Int32)), .unset, .unset] [])
    refine wiload C X76 f0_50 rfl ?_
    refine wiconst C X76 f0_52 (2 : Int32) rfl ?_
    refine wicmp_lt C X76 f0_53 (fun q => absurd q (by decide : ¬ ((3 : Int32) < (2 : Int32)))) ?_
    intro _
    refine waload C X76 f0_56 rfl rfl ?_
    refine wiconst C X76 f0_58 (1 : Int32) rfl ?_
    refine own_foldI (z := (Int32.ofInt 1)) (by decide) ?_
    refine wiloadN C X76 f0_59 rfl ?_
    refine wi2d C X76 f0_60 ?_
    have q87 := (Nat.le_trans (Nat.le_trans (Nat.le_trans Z0 E73.1) K74.1) K76.1)
    refine wvirtual C X76 (y := (⟨"com/example/hornwork/hornwork/FibonacciHeap", "insert", "(ID)V"⟩ : MethodName)) (z := (⟨"com/example/hornwork/hornwork/FibonacciHeap", "insert", "(ID)V"⟩ : MethodName)) (tw_44 hw) (tw_45 hw) (notFace_of_selects (args := #[]) (mvT C.2.1 (tw_47 hw))) (tw_47 hw) (tw_46 hw) (tw_48 hw) (tw_3 hw) (by decide) (rm5_1 l Z a0 hw [] b73 1 (FP.i2d q1) ky_74 pa_74 ch_74 le_74 ri_74 de_74 mk_74 co_74 ro_74 rd_74 kky_74 kpa_74 kch_74 kde_74 kmk_74 kco_74 kri_74 kle_74 (own_updD (fun _ => 0) 0 (FP.i2d q0)) (own_upd (fun _ => 0) 0 (-1)) (own_upd (fun _ => 0) 0 (-1)) (own_upd (fun _ => 0) 0 0) (own_upd (fun _ => 0) 0 0) (own_upd (fun _ => 0) 0 1) (own_upd (fun _ => 0) 0 0) (own_upd (fun _ => 0) 0 0) (own_upd (fun _ => 0) 0 q0.toInt) q1.toInt 0 0 T76.heap n0 q87 G76_0 G76_1 G76_2 G76_3 G76_4 G76_5 G76_6 G76_7 G76_8 G76_9 G76_10 G76_11 G76_12 G76_13 G76_14 G76_15 G76_16 G76_17 G76_18 G76_19 (Nat.le_trans Z0 sz73) (Nat.le_trans Z0 szG74_0) (Nat.le_trans Z0 szG74_1) (Nat.le_trans Z0 szG74_2) (Nat.le_trans Z0 szG74_5) (Nat.le_trans Z0 szG74_6) (Nat.le_trans Z0 szG74_7) (Nat.le_trans Z0 szG74_4) (Nat.le_trans Z0 szG74_3) (by omega) (by omega) (by omega) (by omega) (own_hK own_hK0 (own_i2d q0)) (own_i2d q1) (own_us _ _ _) ne77 G74_10 ne78 (Ne.symm G74_11) (Ne.symm G74_19) ne79 (Ne.symm G74_14) (Ne.symm G74_22) G74_29 ne80 G74_15 (Ne.symm G74_23) G74_30 G74_45 ne81 (Ne.symm G74_16) (Ne.symm G74_24) G74_31 (Ne.symm G74_46) (Ne.symm G74_49) ne82 G74_13 G74_21 G74_28 (Ne.symm G74_40) (Ne.symm G74_41) (Ne.symm G74_42) G74_12 (Ne.symm G74_20) G74_27 (Ne.symm G74_35) G74_36 (Ne.symm G74_37) ne83 G74_34 ne84) rfl (a := b73) G76_0 f0_61 (argsL := [(.int (Int32.ofInt 1)), (.double (FP.i2d q1))]) (rest := []) rfl rfl (lenOf pd_6 rfl) rfl (W := 0) (Nat.le_of_eq rfl) (by decide) (by decide) (by decide) (by decide) ?_
    intro v86 T86 L86 X86 q86
    obtain ⟨g0_86, rfl, Nq86, K86, G86_0, G86_1, G86_2, G86_3, G86_4, G86_5, G86_6, G86_7, G86_8, G86_9, G86_10, G86_11, G86_12, G86_13, G86_14, G86_15, G86_16, G86_17, G86_18, G86_19, G86_20⟩ := q86
    have N86 := Fr.app N76 Nq86
    show Go p e below s _ _ _ T86 (mkF m 64 #[.val (.int y1), .val (.int y2), .val (.int q0), .val (.int q1), .val (.int q2), .val (.int (3 : Int32)), .val (.int mm), .val (.ref b73), .val (.int (1 : Int32)), .unset, .unset] [])
    rcases G86_20 with ⟨rfl, hb61⟩ | ⟨rfl, hb61⟩
    · refine wiload C X86 f0_64 rfl ?_
      refine wiconst C X86 f0_66 (3 : Int32) rfl ?_
      refine wicmp_lt C X86 f0_67 (fun q => absurd q (by decide : ¬ ((3 : Int32) < (3 : Int32)))) ?_
      intro _
      refine waload C X86 f0_70 rfl rfl ?_
      refine wiconst C X86 f0_72 (2 : Int32) rfl ?_
      refine own_foldI (z := (Int32.ofInt 2)) (by decide) ?_
      refine wiload C X86 f0_73 rfl ?_
      refine wi2d C X86 f0_75 ?_
      refine wvirtual C X86 (y := (⟨"com/example/hornwork/hornwork/FibonacciHeap", "insert", "(ID)V"⟩ : MethodName)) (z := (⟨"com/example/hornwork/hornwork/FibonacciHeap", "insert", "(ID)V"⟩ : MethodName)) (tw_44 hw) (tw_45 hw) (notFace_of_selects (args := #[]) (mvT C.2.1 (tw_47 hw))) (tw_47 hw) (tw_46 hw) (tw_48 hw) (tw_3 hw) (by decide) (rm5_1 l Z a0 hw [] b73 2 (FP.i2d q2) ky_74 pa_74 ch_74 le_74 ri_74 de_74 mk_74 co_74 ro_74 rd_74 kky_74 kpa_74 kch_74 kde_74 kmk_74 kco_74 kri_74 kle_74 (own_updD (own_updD (fun _ => 0) 0 (FP.i2d q0)) 1 (FP.i2d q1)) (own_upd (own_upd (fun _ => 0) 0 (-1)) 1 (-1)) (own_upd (own_upd (fun _ => 0) 0 (-1)) 1 (-1)) (own_upd (own_upd (fun _ => 0) 0 0) 1 0) (own_upd (own_upd (fun _ => 0) 0 0) 1 0) (own_upd (own_upd (fun _ => 0) 0 1) 1 1) (own_upd (own_upd (own_upd (own_upd (fun _ => 0) 0 0) 1 1) 0 1) 1 0) (own_upd (own_upd (own_upd (own_upd (fun _ => 0) 0 0) 1 1) 1 0) 0 1) (own_upd (own_upd (fun _ => 0) 0 q0.toInt) 1 q1.toInt) q2.toInt 1 0 T86.heap n0 (Nat.le_trans q87 K86.1) G86_0 G86_1 G86_2 G86_3 G86_4 G86_5 G86_6 G86_7 G86_8 G86_9 G86_10 G86_11 G86_12 G86_13 G86_14 G86_15 G86_16 G86_17 G86_18 G86_19 (Nat.le_trans Z0 sz73) (Nat.le_trans Z0 szG74_0) (Nat.le_trans Z0 szG74_1) (Nat.le_trans Z0 szG74_2) (Nat.le_trans Z0 szG74_5) (Nat.le_trans Z0 szG74_6) (Nat.le_trans Z0 szG74_7) (Nat.le_trans Z0 szG74_4) (Nat.le_trans Z0 szG74_3) (by omega) (by omega) (by omega) (by omega) (own_hK (own_hK own_hK0 (own_i2d q0)) (own_i2d q1)) (own_i2d q2) (own_us _ _ _) ne77 G74_10 ne78 (Ne.symm G74_11) (Ne.symm G74_19) ne79 (Ne.symm G74_14) (Ne.symm G74_22) G74_29 ne80 G74_15 (Ne.symm G74_23) G74_30 G74_45 ne81 (Ne.symm G74_16) (Ne.symm G74_24) G74_31 (Ne.symm G74_46) (Ne.symm G74_49) ne82 G74_13 G74_21 G74_28 (Ne.symm G74_40) (Ne.symm G74_41) (Ne.symm G74_42) G74_12 (Ne.symm G74_20) G74_27 (Ne.symm G74_35) G74_36 (Ne.symm G74_37) ne83 G74_34 ne84) rfl (a := b73) G86_0 f0_76 (argsL := [(.int (Int32.ofInt 2)), (.double (FP.i2d q2))]) (rest := []) rfl rfl (lenOf pd_6 rfl) rfl (W := 0) (Nat.le_of_eq rfl) (by decide) (by decide) (by decide) (by decide) ?_
      intro v88 T88 L88 X88 q88
      obtain ⟨g0_88, rfl, Nq88, K88, G88_0, G88_1, G88_2, G88_3, G88_4, G88_5, G88_6, G88_7, G88_8, G88_9, G88_10, G88_11, G88_12, G88_13, G88_14, G88_15, G88_16, G88_17, G88_18, G88_19, G88_20⟩ := q88
      have N88 := Fr.app N86 Nq88
      show Go p e below s _ _ _ T88 (mkF m 79 #[.val (.int y1), .val (.int y2), .val (.int q0), .val (.int q1), .val (.int q2), .val (.int (3 : Int32)), .val (.int mm), .val (.ref b73), .val (.int (1 : Int32)), .unset, .unset] [])
      rcases G88_20 with ⟨rfl, hb76⟩ | ⟨rfl, hb76⟩
      · refine waload C X88 f0_79 rfl rfl ?_
        refine wvirtual C X88 (y := (⟨"com/example/hornwork/hornwork/FibonacciHeap", "isEmpty", "()Z"⟩ : MethodName)) (z := (⟨"com/example/hornwork/hornwork/FibonacciHeap", "isEmpty", "()Z"⟩ : MethodName)) (tw_39 hw) (tw_40 hw) (notFace_of_selects (args := #[]) (mvT C.2.1 (tw_42 hw))) (tw_42 hw) (tw_41 hw) (tw_43 hw) (tw_3 hw) (by decide) (rm4_1 l Z a0 hw [] b73 2 T88.heap n0 (Nat.le_trans (Nat.le_trans q87 K86.1) K88.1) G88_11 (by omega)) rfl (a := b73) G88_0 f0_81 (argsL := []) (rest := []) rfl rfl (lenOf pd_5 rfl) rfl (W := 0) (Nat.le_of_eq rfl) (by decide) (by decide) (by decide) (by decide) ?_
        intro v89 T89 L89 X89 q89
        obtain ⟨rfl, Nq89, eq89⟩ := q89
        have N89 := Fr.app N88 Nq89
        show Go p e below s _ _ _ T89 (mkF m 84 #[.val (.int y1), .val (.int y2), .val (.int q0), .val (.int q1), .val (.int q2), .val (.int (3 : Int32)), .val (.int mm), .val (.ref b73), .val (.int (1 : Int32)), .unset, .unset] [(.int (0 : Int32))])
        refine wistore C X89 f0_84 #[.val (.int y1), .val (.int y2), .val (.int q0), .val (.int q1), .val (.int q2), .val (.int (3 : Int32)), .val (.int mm), .val (.ref b73), .val (.int (1 : Int32)), .val (.int (0 : Int32)), .unset] rfl ?_
        rcases own_s3 hmm with rfl | rfl | rfl | rfl
        · refine wiload C X89 f0_86 rfl ?_
          refine wiconst C X89 f0_88 (1 : Int32) rfl ?_
          refine wicmp_lt C X89 f0_89 ?_ (fun q => absurd (by decide : ((0 : Int32) < (1 : Int32))) q)
          intro _
          refine wiload C X89 f0_98 rfl ?_
          refine wiconst C X89 f0_100 (2 : Int32) rfl ?_
          refine wicmp_lt C X89 f0_101 ?_ (fun q => absurd (by decide : ((0 : Int32) < (2 : Int32))) q)
          intro _
          refine wiload C X89 f0_110 rfl ?_
          refine wiconst C X89 f0_112 (3 : Int32) rfl ?_
          refine wicmp_lt C X89 f0_113 ?_ (fun q => absurd (by decide : ((0 : Int32) < (3 : Int32))) q)
          intro _
          refine waload C X89 f0_122 rfl rfl ?_
          refine wvirtual C X89 (y := (⟨"com/example/hornwork/hornwork/FibonacciHeap", "isEmpty", "()Z"⟩ : MethodName)) (z := (⟨"com/example/hornwork/hornwork/FibonacciHeap", "isEmpty", "()Z"⟩ : MethodName)) (tw_39 hw) (tw_40 hw) (notFace_of_selects (args := #[]) (mvT C.2.1 (tw_42 hw))) (tw_42 hw) (tw_41 hw) (tw_43 hw) (tw_3 hw) (by decide) (rm4_1 l Z a0 hw [] b73 2 T88.heap n0 (Nat.le_trans (Nat.le_trans q87 K86.1) K88.1) G88_11 (by omega)) eq89 (a := b73) G88_0 f0_124 (argsL := []) (rest := []) rfl rfl (lenOf pd_5 rfl) rfl (W := 0) (Nat.le_of_eq rfl) (by decide) (by decide) (by decide) (by decide) ?_
          intro v90 T90 L90 X90 q90
          obtain ⟨rfl, Nq90, eq90⟩ := q90
          have N90 := Fr.app N89 Nq90
          show Go p e below s _ _ _ T90 (mkF m 127 #[.val (.int y1), .val (.int y2), .val (.int q0), .val (.int q1), .val (.int q2), .val (.int (3 : Int32)), .val (.int (0 : Int32)), .val (.ref b73), .val (.int (1 : Int32)), .val (.int (0 : Int32)), .unset] [(.int (0 : Int32))])
          refine wistore C X90 f0_127 #[.val (.int y1), .val (.int y2), .val (.int q0), .val (.int q1), .val (.int q2), .val (.int (3 : Int32)), .val (.int (0 : Int32)), .val (.ref b73), .val (.int (1 : Int32)), .val (.int (0 : Int32)), .val (.int (0 : Int32))] rfl ?_
          refine wiload C X90 f0_129 rfl ?_
          refine wif_eq C X90 f0_131 (fun q => absurd q (by decide : ¬ ((1 : Int32) = (0 : Int32)))) ?_
          intro _
          refine wiload C X90 f0_134 rfl ?_
          refine wiload C X90 f0_136 rfl ?_
          refine wif_ne C X90 f0_138 (fun q => absurd q (by decide : ¬ ((3 : Int32) = (0 : Int32)))) ?_
          intro _
          refine wiconst C X90 f0_145 (0 : Int32) rfl ?_
          refine wicmp_ne C X90 f0_146 ?_ (fun q => absurd (by decide : ((0 : Int32) = (0 : Int32))) q)
          intro _
          refine wiload C X90 f0_149 rfl ?_
          refine wiload C X90 f0_151 rfl ?_
          refine wiload C X90 f0_153 rfl ?_
          refine wicmp_ne C X90 f0_155 (fun q => absurd q (by decide : ¬ ((0 : Int32) = (3 : Int32)))) ?_
          intro _
          refine wiconst C X90 f0_162 (0 : Int32) rfl ?_
          refine wicmp_ne C X90 f0_163 ?_ (fun q => absurd (by decide : ((0 : Int32) = (0 : Int32))) q)
          intro _
          refine wiconst C X90 f0_166 (1 : Int32) rfl ?_
          refine wgoto C X90 f0_167 ?_
          refine wiretN C X90 (t := .boolean) (by simp) f0_171 rfl (1 : Int32) (by decide) (by decide) (by decide) ?_
          rw [eq90]
          exact ⟨rfl, N90⟩
        · refine wiload C X89 f0_86 rfl ?_
          refine wiconst C X89 f0_88 (1 : Int32) rfl ?_
          refine wicmp_lt C X89 f0_89 (fun q => absurd q (by decide : ¬ ((1 : Int32) < (1 : Int32)))) ?_
          intro _
          refine waload C X89 f0_92 rfl rfl ?_
          have ne92 : b73 ≠ ro_74 := (Nat.ne_of_lt (Nat.lt_of_lt_of_le A73.lt G74_8))
          have q93 := (((G74_75.keep K76 (ninS (Ne.symm G74_17) (ninS (Ne.symm G74_25) (ninS (Ne.symm G74_32) (ninS (Ne.symm G74_47) (ninS (Ne.symm G74_50) (ninS (Ne.symm G74_52) (ninS (Ne.symm G74_43) (ninS (Ne.symm G74_38) (ninS (Ne.symm ne92) nin0)))))))))).keep K86 (ninS (Ne.symm G74_17) (ninS (Ne.symm G74_25) (ninS (Ne.symm G74_32) (ninS (Ne.symm G74_47) (ninS (Ne.symm G74_50) (ninS (Ne.symm G74_52) (ninS (Ne.symm G74_43) (ninS (Ne.symm G74_38) (ninS (Ne.symm ne92) nin0)))))))))).keep K88 (ninS (Ne.symm G74_17) (ninS (Ne.symm G74_25) (ninS (Ne.symm G74_32) (ninS (Ne.symm G74_47) (ninS (Ne.symm G74_50) (ninS (Ne.symm G74_52) (ninS (Ne.symm G74_43) (ninS (Ne.symm G74_38) (ninS (Ne.symm ne92) nin0))))))))))
          have ne94 : b73 ≠ rd_74 := (Nat.ne_of_lt (Nat.lt_of_lt_of_le A73.lt G74_9))
          have q95 := (((G74_76.keep K76 (ninS (Ne.symm G74_18) (ninS (Ne.symm G74_26) (ninS (Ne.symm G74_33) (ninS (Ne.symm G74_48) (ninS (Ne.symm G74_51) (ninS (Ne.symm G74_53) (ninS (Ne.symm G74_44) (ninS (Ne.symm G74_39) (ninS (Ne.symm ne94) nin0)))))))))).keep K86 (ninS (Ne.symm G74_18) (ninS (Ne.symm G74_26) (ninS (Ne.symm G74_33) (ninS (Ne.symm G74_48) (ninS (Ne.symm G74_51) (ninS (Ne.symm G74_53) (ninS (Ne.symm G74_44) (ninS (Ne.symm G74_39) (ninS (Ne.symm ne94) nin0)))))))))).keep K88 (ninS (Ne.symm G74_18) (ninS (Ne.symm G74_26) (ninS (Ne.symm G74_33) (ninS (Ne.symm G74_48) (ninS (Ne.symm G74_51) (ninS (Ne.symm G74_53) (ninS (Ne.symm G74_44) (ninS (Ne.symm G74_39) (ninS (Ne.symm ne94) nin0))))))))))
          refine wvirtual C X89 (y := (⟨"com/example/hornwork/hornwork/FibonacciHeap", "removeLeast", "()I"⟩ : MethodName)) (z := (⟨"com/example/hornwork/hornwork/FibonacciHeap", "removeLeast", "()I"⟩ : MethodName)) (tw_61 hw) (tw_62 hw) (notFace_of_selects (args := #[]) (mvT C.2.1 (tw_64 hw))) (tw_64 hw) (tw_63 hw) (tw_65 hw) (tw_3 hw) (by decide) (rm9_C l Z a0 hw [] b73 ky_74 pa_74 ch_74 le_74 ri_74 de_74 mk_74 co_74 ro_74 rd_74 kri_74 kle_74 kch_74 kpa_74 kco_74 kde_74 kmk_74 kro_74 krd_74 kky_74 (own_upd (own_upd (own_upd (own_upd (own_upd (own_upd (own_upd (fun _ => 0) 0 0) 1 1) 0 1) 1 0) 2 2) 1 2) 2 0) (own_upd (own_upd (own_upd (own_upd (own_upd (own_upd (own_upd (fun _ => 0) 0 0) 1 1) 1 0) 0 1) 2 2) 2 1) 0 2) (own_upd (own_upd (own_upd (fun _ => 0) 0 (-1)) 1 (-1)) 2 (-1)) (own_upd (own_upd (own_upd (fun _ => 0) 0 (-1)) 1 (-1)) 2 (-1)) (own_upd (own_upd (own_upd (fun _ => 0) 0 1) 1 1) 2 1) (own_upd (own_upd (own_upd (fun _ => 0) 0 0) 1 0) 2 0) (own_upd (own_upd (own_upd (fun _ => 0) 0 0) 1 0) 2 0) (fun _ => 0) RD_74 (own_updD (own_updD (own_updD (fun _ => 0) 0 (FP.i2d q0)) 1 (FP.i2d q1)) 2 (FP.i2d q2)) 2 0 1 (own_upd (own_upd (own_upd (fun _ => 0) 0 q0.toInt) 1 q1.toInt) 2 q2.toInt) T88.heap n0 (Nat.le_trans (Nat.le_trans q87 K86.1) K88.1) G88_0 G88_1 G88_2 G88_3 G88_4 G88_5 G88_6 G88_7 G88_8 G88_9 G88_10 G88_11 G88_18 G88_19 G88_14 G88_13 G88_17 G88_15 G88_16 q93 q95 G88_12 (Nat.le_trans Z0 sz73) (Nat.le_trans Z0 szG74_4) (Nat.le_trans Z0 szG74_3) (Nat.le_trans Z0 szG74_2) (Nat.le_trans Z0 szG74_1) (Nat.le_trans Z0 szG74_7) (Nat.le_trans Z0 szG74_5) (Nat.le_trans Z0 szG74_6) (Nat.le_trans Z0 szG74_8) (Nat.le_trans Z0 szG74_9) (by omega) (by omega) (by omega) (by omega) (by omega) (by omega) (own_hK (own_hK (own_hK own_hK0 (own_i2d q0)) (own_i2d q1)) (own_i2d q2)) (own_us _ _ _) ((own_un (by decide)).trans ((own_un (by decide)).trans (own_us _ _ _))) ((own_un (by decide)).trans (own_us _ _ _)) (own_us _ _ _) ((own_un (by decide)).trans ((own_un (by decide)).trans ((own_un (by decide)).trans ((own_un (by decide)).trans (own_us _ _ _))))) ((own_un (by decide)).trans (own_us _ _ _)) ((own_un (by decide)).trans ((own_un (by decide)).trans ((own_un (by decide)).trans ((own_un (by decide)).trans (own_us _ _ _))))) ((own_un (by decide)).trans ((own_un (by decide)).trans (own_us _ _ _))) ((own_un (by decide)).trans (own_us _ _ _)) (G74_77 0 (by decide)) (G74_77 1 (by decide)) ne84 G74_34 ne83 G74_27 G74_28 (Ne.symm G74_20) G74_21 (Ne.symm G74_35) (Ne.symm G74_40) G74_36 (Ne.symm G74_41) G74_38 G74_43 G74_39 (Ne.symm G74_44) G74_12 G74_13 ne92 G74_47 (Ne.symm G74_54) ne94 G74_48 G74_17 G74_18 G74_32 G74_33 G74_25 G74_26 G74_50 G74_51 ne79 (Ne.symm G74_19) ne78 G74_29 (Ne.symm G74_22) ne80 G74_30 (Ne.symm G74_23) G74_45 ne81 (Ne.symm G74_37) (Ne.symm G74_42) ne82 G74_53 G74_52 (Ne.symm G74_49) (Ne.symm G74_46) (Ne.symm G74_24) G74_31) eq89 (a := b73) G88_0 f0_94 (argsL := []) (rest := []) rfl rfl (lenOf pd_7 rfl) rfl (W := 0) (Nat.le_of_eq rfl) (by decide) (by decide) (by decide) (by decide) ?_
          intro v91 T91 L91 X91 q91
          obtain ⟨tp_91, ot_91, rfl, Nq91, K91, G91_0, G91_1, G91_2, G91_3, G91_4, G91_5, G91_6, G91_7, G91_8, G91_9, G91_10, G91_11, G91_12, G91_13, G91_14, G91_15, G91_16, G91_17, G91_18, G91_19, G91_20, G91_21⟩ := q91
          have q96 := (Nat.le_trans (Nat.le_trans (Nat.le_trans q85 K76.1) K86.1) K88.1)
          have N91 := Fr.app N89 Nq91
          show Go p e below s _ _ _ T91 (mkF m 97 #[.val (.int y1), .val (.int y2), .val (.int q0), .val (.int q1), .val (.int q2), .val (.int (3 : Int32)), .val (.int (1 : Int32)), .val (.ref b73), .val (.int (1 : Int32)), .val (.int (0 : Int32)), .unset] [(.int (Int32.ofInt 2))])
          have htp : tp_91 < 3 ∧ ot_91 < 3 ∧ tp_91 ≠ ot_91 ∧ tp_91 ≠ 2 ∧ ot_91 ≠ 2 := by rcases G91_21 with ⟨z1, z2, -⟩ | ⟨z1, z2, -⟩ <;> omega
          refine wpop C X91 f0_97 rfl ?_
          refine wiload C X91 f0_98 rfl ?_
          refine wiconst C X91 f0_100 (2 : Int32) rfl ?_
          refine wicmp_lt C X91 f0_101 ?_ (fun q => absurd (by decide : ((1 : Int32) < (2 : Int32))) q)
          intro _
          refine wiload C X91 f0_110 rfl ?_
          refine wiconst C X91 f0_112 (3 : Int32) rfl ?_
          refine wicmp_lt C X91 f0_113 ?_ (fun q => absurd (by decide : ((1 : Int32) < (3 : Int32))) q)
          intro _
          refine waload C X91 f0_122 rfl rfl ?_
          have q98 := (Nat.le_trans (Nat.le_trans (Nat.le_trans q87 K86.1) K88.1) K91.1)
          refine wvirtual C X91 (y := (⟨"com/example/hornwork/hornwork/FibonacciHeap", "isEmpty", "()Z"⟩ : MethodName)) (z := (⟨"com/example/hornwork/hornwork/FibonacciHeap", "isEmpty", "()Z"⟩ : MethodName)) (tw_39 hw) (tw_40 hw) (notFace_of_selects (args := #[]) (mvT C.2.1 (tw_42 hw))) (tw_42 hw) (tw_41 hw) (tw_43 hw) (tw_3 hw) (by decide) (rm4_1 l Z a0 hw [] b73 tp_91 T91.heap n0 q98 G91_11 (by omega)) rfl (a := b73) G91_0 f0_124 (argsL := []) (rest := []) rfl rfl (lenOf pd_5 rfl) rfl (W := 0) (Nat.le_of_eq rfl) (by decide) (by decide) (by decide) (by decide) ?_
          intro v97 T97 L97 X97 q97
          obtain ⟨rfl, Nq97, eq97⟩ := q97
          have N97 := Fr.app N91 Nq97
          show Go p e below s _ _ _ T97 (mkF m 127 #[.val (.int y1), .val (.int y2), .val (.int q0), .val (.int q1), .val (.int q2), .val (.int (3 : Int32)), .val (.int (1 : Int32)), .val (.ref b73), .val (.int (1 : Int32)), .val (.int (0 : Int32)), .unset] [(.int (0 : Int32))])
          refine wistore C X97 f0_127 #[.val (.int y1), .val (.int y2), .val (.int q0), .val (.int q1), .val (.int q2), .val (.int (3 : Int32)), .val (.int (1 : Int32)), .val (.ref b73), .val (.int (1 : Int32)), .val (.int (0 : Int32)), .val (.int (0 : Int32))] rfl ?_
          refine wiload C X97 f0_129 rfl ?_
          refine wif_eq C X97 f0_131 (fun q => absurd q (by decide : ¬ ((1 : Int32) = (0 : Int32)))) ?_
          intro _
          refine wiload C X97 f0_134 rfl ?_
          refine wiload C X97 f0_136 rfl ?_
          refine wif_ne C X97 f0_138 (fun q => absurd q (by decide : ¬ ((3 : Int32) = (0 : Int32)))) ?_
          intro _
          refine wiconst C X97 f0_145 (0 : Int32) rfl ?_
          refine wicmp_ne C X97 f0_146 ?_ (fun q => absurd (by decide : ((0 : Int32) = (0 : Int32))) q)
          intro _
          refine wiload C X97 f0_149 rfl ?_
          refine wiload C X97 f0_151 rfl ?_
          refine wiload C X97 f0_153 rfl ?_
          refine wicmp_ne C X97 f0_155 (fun q => absurd q (by decide : ¬ ((1 : Int32) = (3 : Int32)))) ?_
          intro _
          refine wiconst C X97 f0_162 (0 : Int32) rfl ?_
          refine wicmp_ne C X97 f0_163 ?_ (fun q => absurd (by decide : ((0 : Int32) = (0 : Int32))) q)
          intro _
          refine wiconst C X97 f0_166 (1 : Int32) rfl ?_
          refine wgoto C X97 f0_167 ?_
          refine wiretN C X97 (t := .boolean) (by simp) f0_171 rfl (1 : Int32) (by decide) (by decide) (by decide) ?_
          rw [eq97]
          exact ⟨rfl, N97⟩
        · refine wiload C X89 f0_86 rfl ?_
          refine wiconst C X89 f0_88 (1 : Int32) rfl ?_
          refine wicmp_lt C X89 f0_89 (fun q => absurd q (by decide : ¬ ((2 : Int32) < (1 : Int32)))) ?_
          intro _
          refine waload C X89 f0_92 rfl rfl ?_
          have ne100 : b73 ≠ ro_74 := (Nat.ne_of_lt (Nat.lt_of_lt_of_le A73.lt G74_8))
          have q101 := (((G74_75.keep K76 (ninS (Ne.symm G74_17) (ninS (Ne.symm G74_25) (ninS (Ne.symm G74_32) (ninS (Ne.symm G74_47) (ninS (Ne.symm G74_50) (ninS (Ne.symm G74_52) (ninS (Ne.symm G74_43) (ninS (Ne.symm G74_38) (ninS (Ne.symm ne100) nin0)))))))))).keep K86 (ninS (Ne.symm G74_17) (ninS (Ne.symm G74_25) (ninS (Ne.symm G74_32) (ninS (Ne.symm G74_47) (ninS (Ne.symm G74_50) (ninS (Ne.symm G74_52) (ninS (Ne.symm G74_43) (ninS (Ne.symm G74_38) (ninS (Ne.symm ne100) nin0)))))))))).keep K88 (ninS (Ne.symm G74_17) (ninS (Ne.symm G74_25) (ninS (Ne.symm G74_32) (ninS (Ne.symm G74_47) (ninS (Ne.symm G74_50) (ninS (Ne.symm G74_52) (ninS (Ne.symm G74_43) (ninS (Ne.symm G74_38) (ninS (Ne.symm ne100) nin0))))))))))
          have ne102 : b73 ≠ rd_74 := (Nat.ne_of_lt (Nat.lt_of_lt_of_le A73.lt G74_9))
          have q103 := (((G74_76.keep K76 (ninS (Ne.symm G74_18) (ninS (Ne.symm G74_26) (ninS (Ne.symm G74_33) (ninS (Ne.symm G74_48) (ninS (Ne.symm G74_51) (ninS (Ne.symm G74_53) (ninS (Ne.symm G74_44) (ninS (Ne.symm G74_39) (ninS (Ne.symm ne102) nin0)))))))))).keep K86 (ninS (Ne.symm G74_18) (ninS (Ne.symm G74_26) (ninS (Ne.symm G74_33) (ninS (Ne.symm G74_48) (ninS (Ne.symm G74_51) (ninS (Ne.symm G74_53) (ninS (Ne.symm G74_44) (ninS (Ne.symm G74_39) (ninS (Ne.symm ne102) nin0)))))))))).keep K88 (ninS (Ne.symm G74_18) (ninS (Ne.symm G74_26) (ninS (Ne.symm G74_33) (ninS (Ne.symm G74_48) (ninS (Ne.symm G74_51) (ninS (Ne.symm G74_53) (ninS (Ne.symm G74_44) (ninS (Ne.symm G74_39) (ninS (Ne.symm ne102) nin0))))))))))
          refine wvirtual C X89 (y := (⟨"com/example/hornwork/hornwork/FibonacciHeap", "removeLeast", "()I"⟩ : MethodName)) (z := (⟨"com/example/hornwork/hornwork/FibonacciHeap", "removeLeast", "()I"⟩ : MethodName)) (tw_61 hw) (tw_62 hw) (notFace_of_selects (args := #[]) (mvT C.2.1 (tw_64 hw))) (tw_64 hw) (tw_63 hw) (tw_65 hw) (tw_3 hw) (by decide) (rm9_C l Z a0 hw [] b73 ky_74 pa_74 ch_74 le_74 ri_74 de_74 mk_74 co_74 ro_74 rd_74 kri_74 kle_74 kch_74 kpa_74 kco_74 kde_74 kmk_74 kro_74 krd_74 kky_74 (own_upd (own_upd (own_upd (own_upd (own_upd (own_upd (own_upd (fun _ => 0) 0 0) 1 1) 0 1) 1 0) 2 2) 1 2) 2 0) (own_upd (own_upd (own_upd (own_upd (own_upd (own_upd (own_upd (fun _ => 0) 0 0) 1 1) 1 0) 0 1) 2 2) 2 1) 0 2) (own_upd (own_upd (own_upd (fun _ => 0) 0 (-1)) 1 (-1)) 2 (-1)) (own_upd (own_upd (own_upd (fun _ => 0) 0 (-1)) 1 (-1)) 2 (-1)) (own_upd (own_upd (own_upd (fun _ => 0) 0 1) 1 1) 2 1) (own_upd (own_upd (own_upd (fun _ => 0) 0 0) 1 0) 2 0) (own_upd (own_upd (own_upd (fun _ => 0) 0 0) 1 0) 2 0) (fun _ => 0) RD_74 (own_updD (own_updD (own_updD (fun _ => 0) 0 (FP.i2d q0)) 1 (FP.i2d q1)) 2 (FP.i2d q2)) 2 0 1 (own_upd (own_upd (own_upd (fun _ => 0) 0 q0.toInt) 1 q1.toInt) 2 q2.toInt) T88.heap n0 (Nat.le_trans (Nat.le_trans q87 K86.1) K88.1) G88_0 G88_1 G88_2 G88_3 G88_4 G88_5 G88_6 G88_7 G88_8 G88_9 G88_10 G88_11 G88_18 G88_19 G88_14 G88_13 G88_17 G88_15 G88_16 q101 q103 G88_12 (Nat.le_trans Z0 sz73) (Nat.le_trans Z0 szG74_4) (Nat.le_trans Z0 szG74_3) (Nat.le_trans Z0 szG74_2) (Nat.le_trans Z0 szG74_1) (Nat.le_trans Z0 szG74_7) (Nat.le_trans Z0 szG74_5) (Nat.le_trans Z0 szG74_6) (Nat.le_trans Z0 szG74_8) (Nat.le_trans Z0 szG74_9) (by omega) (by omega) (by omega) (by omega) (by omega) (by omega) (own_hK (own_hK (own_hK own_hK0 (own_i2d q0)) (own_i2d q1)) (own_i2d q2)) (own_us _ _ _) ((own_un (by decide)).trans ((own_un (by decide)).trans (own_us _ _ _))) ((own_un (by decide)).trans (own_us _ _ _)) (own_us _ _ _) ((own_un (by decide)).trans ((own_un (by decide)).trans ((own_un (by decide)).trans ((own_un (by decide)).trans (own_us _ _ _))))) ((own_un (by decide)).trans (own_us _ _ _)) ((own_un (by decide)).trans ((own_un (by decide)).trans ((own_un (by decide)).trans ((own_un (by decide)).trans (own_us _ _ _))))) ((own_un (by decide)).trans ((own_un (by decide)).trans (own_us _ _ _))) ((own_un (by decide)).trans (own_us _ _ _)) (G74_77 0 (by decide)) (G74_77 1 (by decide)) ne84 G74_34 ne83 G74_27 G74_28 (Ne.symm G74_20) G74_21 (Ne.symm G74_35) (Ne.symm G74_40) G74_36 (Ne.symm G74_41) G74_38 G74_43 G74_39 (Ne.symm G74_44) G74_12 G74_13 ne100 G74_47 (Ne.symm G74_54) ne102 G74_48 G74_17 G74_18 G74_32 G74_33 G74_25 G74_26 G74_50 G74_51 ne79 (Ne.symm G74_19) ne78 G74_29 (Ne.symm G74_22) ne80 G74_30 (Ne.symm G74_23) G74_45 ne81 (Ne.symm G74_37) (Ne.symm G74_42) ne82 G74_53 G74_52 (Ne.symm G74_49) (Ne.symm G74_46) (Ne.symm G74_24) G74_31) eq89 (a := b73) G88_0 f0_94 (argsL := []) (rest := []) rfl rfl (lenOf pd_7 rfl) rfl (W := 0) (Nat.le_of_eq rfl) (by decide) (by decide) (by decide) (by decide) ?_
          intro v99 T99 L99 X99 q99
          obtain ⟨tp_99, ot_99, rfl, Nq99, K99, G99_0, G99_1, G99_2, G99_3, G99_4, G99_5, G99_6, G99_7, G99_8, G99_9, G99_10, G99_11, G99_12, G99_13, G99_14, G99_15, G99_16, G99_17, G99_18, G99_19, G99_20, G99_21⟩ := q99
          have q104 := (Nat.le_trans (Nat.le_trans (Nat.le_trans q85 K76.1) K86.1) K88.1)
          have N99 := Fr.app N89 Nq99
          show Go p e below s _ _ _ T99 (mkF m 97 #[.val (.int y1), .val (.int y2), .val (.int q0), .val (.int q1), .val (.int q2), .val (.int (3 : Int32)), .val (.int (2 : Int32)), .val (.ref b73), .val (.int (1 : Int32)), .val (.int (0 : Int32)), .unset] [(.int (Int32.ofInt 2))])
          have htp : tp_99 < 3 ∧ ot_99 < 3 ∧ tp_99 ≠ ot_99 ∧ tp_99 ≠ 2 ∧ ot_99 ≠ 2 := by rcases G99_21 with ⟨z1, z2, -⟩ | ⟨z1, z2, -⟩ <;> omega
          refine wpop C X99 f0_97 rfl ?_
          refine wiload C X99 f0_98 rfl ?_
          refine wiconst C X99 f0_100 (2 : Int32) rfl ?_
          refine wicmp_lt C X99 f0_101 (fun q => absurd q (by decide : ¬ ((2 : Int32) < (2 : Int32)))) ?_
          intro _
          refine waload C X99 f0_104 rfl rfl ?_
          have q106 := (Nat.le_trans (Nat.le_trans (Nat.le_trans q87 K86.1) K88.1) K99.1)
          refine wvirtual C X99 (y := (⟨"com/example/hornwork/hornwork/FibonacciHeap", "removeLeast", "()I"⟩ : MethodName)) (z := (⟨"com/example/hornwork/hornwork/FibonacciHeap", "removeLeast", "()I"⟩ : MethodName)) (tw_61 hw) (tw_62 hw) (notFace_of_selects (args := #[]) (mvT C.2.1 (tw_64 hw))) (tw_64 hw) (tw_63 hw) (tw_65 hw) (tw_3 hw) (by decide) (rm9_D l Z a0 hw [] b73 ky_74 pa_74 ch_74 le_74 ri_74 de_74 mk_74 co_74 ro_74 rd_74 kri_74 kle_74 kch_74 kpa_74 kco_74 kde_74 kro_74 krd_74 (own_upd (own_upd (own_upd (own_upd (own_upd (own_upd (own_upd (own_upd (own_upd (own_upd (own_upd (fun _ => 0) 0 0) 1 1) 0 1) 1 0) 2 2) 1 2) 2 0) 1 0) 2 2) tp_99 tp_99) ot_99 ot_99) (own_upd (own_upd (own_upd (own_upd (own_upd (own_upd (own_upd (own_upd (own_upd (own_upd (own_upd (fun _ => 0) 0 0) 1 1) 1 0) 0 1) 2 2) 2 1) 0 2) 0 1) 2 2) tp_99 tp_99) ot_99 ot_99) (own_upd (own_upd (own_upd (own_upd (own_upd (fun _ => 0) 0 (-1)) 1 (-1)) 2 (-1)) tp_99 ot_99) 2 (-1)) (own_upd (own_upd (own_upd (own_upd (fun _ => 0) 0 (-1)) 1 (-1)) 2 (-1)) ot_99 tp_99) (own_upd (own_upd (own_upd (own_upd (fun _ => 0) 0 1) 1 1) 2 1) 2 0) (own_upd (own_upd (own_upd (own_upd (fun _ => 0) 0 0) 1 0) 2 0) tp_99 1) (own_upd (own_upd (fun _ => 0) 0 0) 1 1) (own_upd (own_upd (own_upd (own_upd (own_upd RD_74 0 0) 0 (-1)) 1 tp_99) 0 (-1)) 1 (-1)) tp_99 ot_99 T99.heap n0 q106 G99_0 G99_1 G99_2 G99_3 G99_4 G99_5 G99_6 G99_7 G99_8 G99_9 G99_10 G99_11 G99_12 G99_13 G99_14 G99_15 G99_16 G99_17 G99_19 G99_20 (Nat.le_trans Z0 sz73) (Nat.le_trans Z0 szG74_4) (Nat.le_trans Z0 szG74_3) (Nat.le_trans Z0 szG74_2) (Nat.le_trans Z0 szG74_1) (Nat.le_trans Z0 szG74_7) (Nat.le_trans Z0 szG74_5) (Nat.le_trans Z0 szG74_8) (Nat.le_trans Z0 szG74_9) (by omega) (by omega) (by omega) ((own_un (by omega)).trans (own_us _ _ _)) ((own_un (by omega)).trans (own_us _ _ _)) (own_us _ _ _) (own_us _ _ _) (G99_21.elim (fun z => by obtain ⟨rfl, rfl, -⟩ := z; first | rfl | exact (own_un (by decide)).trans ((own_un (by decide)).trans (own_us _ _ _))) (fun z => by obtain ⟨rfl, rfl, -⟩ := z; first | rfl | exact (own_un (by decide)).trans ((own_un (by decide)).trans ((own_un (by decide)).trans (own_us _ _ _))))) ((own_un (by decide)).trans (own_us _ _ _)) ne78 G74_21 (Ne.symm G74_20) ne84 G74_34 ne83 (Ne.symm G74_22) (Ne.symm G74_35) (Ne.symm G74_40) G74_25 G74_38 G74_43 G74_26 G74_39 (Ne.symm G74_44) ne100 G74_47 (Ne.symm G74_54) ne102 (Ne.symm G74_24) (Ne.symm G74_37) (Ne.symm G74_42) ne82 G74_53 G74_52 (Ne.symm G74_19) G74_27 G74_28 ne79 G74_33 G74_32 G74_31) rfl (a := b73) G99_0 f0_106 (argsL := []) (rest := []) rfl rfl (lenOf pd_7 rfl) rfl (W := 0) (Nat.le_of_eq rfl) (by decide) (by decide) (by decide) (by decide) ?_
          intro v105 T105 L105 X105 q105
          obtain ⟨rfl, Nq105, K105, G105_0, G105_1, G105_2, G105_3, G105_4, G105_5, G105_6, G105_7, G105_8, G105_9, G105_10, G105_11, G105_12, G105_13, G105_14, G105_15, G105_16, G105_17, G105_18⟩ := q105
          have N105 := Fr.app N99 Nq105
          show Go p e below s _ _ _ T105 (mkF m 109 #[.val (.int y1), .val (.int y2), .val (.int q0), .val (.int q1), .val (.int q2), .val (.int (3 : Int32)), .val (.int (2 : Int32)), .val (.ref b73), .val (.int (1 : Int32)), .val (.int (0 : Int32)), .unset] [(.int (Int32.ofInt tp_99))])
          refine wpop C X105 f0_109 rfl ?_
          refine wiload C X105 f0_110 rfl ?_
          refine wiconst C X105 f0_112 (3 : Int32) rfl ?_
          refine wicmp_lt C X105 f0_113 ?_ (fun q => absurd (by decide : ((2 : Int32) < (3 : Int32))) q)
          intro _
          refine waload C X105 f0_122 rfl rfl ?_
          refine wvirtual C X105 (y := (⟨"com/example/hornwork/hornwork/FibonacciHeap", "isEmpty", "()Z"⟩ : MethodName)) (z := (⟨"com/example/hornwork/hornwork/FibonacciHeap", "isEmpty", "()Z"⟩ : MethodName)) (tw_39 hw) (tw_40 hw) (notFace_of_selects (args := #[]) (mvT C.2.1 (tw_42 hw))) (tw_42 hw) (tw_41 hw) (tw_43 hw) (tw_3 hw) (by decide) (rm4_1 l Z a0 hw [] b73 ot_99 T105.heap n0 (Nat.le_trans q106 K105.1) G105_11 (by omega)) rfl (a := b73) G105_0 f0_124 (argsL := []) (rest := []) rfl rfl (lenOf pd_5 rfl) rfl (W := 0) (Nat.le_of_eq rfl) (by decide) (by decide) (by decide) (by decide) ?_
          intro v107 T107 L107 X107 q107
          obtain ⟨rfl, Nq107, eq107⟩ := q107
          have N107 := Fr.app N105 Nq107
          show Go p e below s _ _ _ T107 (mkF m 127 #[.val (.int y1), .val (.int y2), .val (.int q0), .val (.int q1), .val (.int q2), .val (.int (3 : Int32)), .val (.int (2 : Int32)), .val (.ref b73), .val (.int (1 : Int32)), .val (.int (0 : Int32)), .unset] [(.int (0 : Int32))])
          refine wistore C X107 f0_127 #[.val (.int y1), .val (.int y2), .val (.int q0), .val (.int q1), .val (.int q2), .val (.int (3 : Int32)), .val (.int (2 : Int32)), .val (.ref b73), .val (.int (1 : Int32)), .val (.int (0 : Int32)), .val (.int (0 : Int32))] rfl ?_
          refine wiload C X107 f0_129 rfl ?_
          refine wif_eq C X107 f0_131 (fun q => absurd q (by decide : ¬ ((1 : Int32) = (0 : Int32)))) ?_
          intro _
          refine wiload C X107 f0_134 rfl ?_
          refine wiload C X107 f0_136 rfl ?_
          refine wif_ne C X107 f0_138 (fun q => absurd q (by decide : ¬ ((3 : Int32) = (0 : Int32)))) ?_
          intro _
          refine wiconst C X107 f0_145 (0 : Int32) rfl ?_
          refine wicmp_ne C X107 f0_146 ?_ (fun q => absurd (by decide : ((0 : Int32) = (0 : Int32))) q)
          intro _
          refine wiload C X107 f0_149 rfl ?_
          refine wiload C X107 f0_151 rfl ?_
          refine wiload C X107 f0_153 rfl ?_
          refine wicmp_ne C X107 f0_155 (fun q => absurd q (by decide : ¬ ((2 : Int32) = (3 : Int32)))) ?_
          intro _
          refine wiconst C X107 f0_162 (0 : Int32) rfl ?_
          refine wicmp_ne C X107 f0_163 ?_ (fun q => absurd (by decide : ((0 : Int32) = (0 : Int32))) q)
          intro _
          refine wiconst C X107 f0_166 (1 : Int32) rfl ?_
          refine wgoto C X107 f0_167 ?_
          refine wiretN C X107 (t := .boolean) (by simp) f0_171 rfl (1 : Int32) (by decide) (by decide) (by decide) ?_
          rw [eq107]
          exact ⟨rfl, N107⟩
        · refine wiload C X89 f0_86 rfl ?_
          refine wiconst C X89 f0_88 (1 : Int32) rfl ?_
          refine wicmp_lt C X89 f0_89 (fun q => absurd q (by decide : ¬ ((3 : Int32) < (1 : Int32)))) ?_
          intro _
          refine waload C X89 f0_92 rfl rfl ?_
          have ne109 : b73 ≠ ro_74 := (Nat.ne_of_lt (Nat.lt_of_lt_of_le A73.lt G74_8))
          have q110 := (((G74_75.keep K76 (ninS (Ne.symm G74_17) (ninS (Ne.symm G74_25) (ninS (Ne.symm G74_32) (ninS (Ne.symm G74_47) (ninS (Ne.symm G74_50) (ninS (Ne.symm G74_52) (ninS (Ne.symm G74_43) (ninS (Ne.symm G74_38) (ninS (Ne.symm ne109) nin0)))))))))).keep K86 (ninS (Ne.symm G74_17) (ninS (Ne.symm G74_25) (ninS (Ne.symm G74_32) (ninS (Ne.symm G74_47) (ninS (Ne.symm G74_50) (ninS (Ne.symm G74_52) (ninS (Ne.symm G74_43) (ninS (Ne.symm G74_38) (ninS (Ne.symm ne109) nin0)))))))))).keep K88 (ninS (Ne.symm G74_17) (ninS (Ne.symm G74_25) (ninS (Ne.symm G74_32) (ninS (Ne.symm G74_47) (ninS (Ne.symm G74_50) (ninS (Ne.symm G74_52) (ninS (Ne.symm G74_43) (ninS (Ne.symm G74_38) (ninS (Ne.symm ne109) nin0))))))))))
          have ne111 : b73 ≠ rd_74 := (Nat.ne_of_lt (Nat.lt_of_lt_of_le A73.lt G74_9))
          have q112 := (((G74_76.keep K76 (ninS (Ne.symm G74_18) (ninS (Ne.symm G74_26) (ninS (Ne.symm G74_33) (ninS (Ne.symm G74_48) (ninS (Ne.symm G74_51) (ninS (Ne.symm G74_53) (ninS (Ne.symm G74_44) (ninS (Ne.symm G74_39) (ninS (Ne.symm ne111) nin0)))))))))).keep K86 (ninS (Ne.symm G74_18) (ninS (Ne.symm G74_26) (ninS (Ne.symm G74_33) (ninS (Ne.symm G74_48) (ninS (Ne.symm G74_51) (ninS (Ne.symm G74_53) (ninS (Ne.symm G74_44) (ninS (Ne.symm G74_39) (ninS (Ne.symm ne111) nin0)))))))))).keep K88 (ninS (Ne.symm G74_18) (ninS (Ne.symm G74_26) (ninS (Ne.symm G74_33) (ninS (Ne.symm G74_48) (ninS (Ne.symm G74_51) (ninS (Ne.symm G74_53) (ninS (Ne.symm G74_44) (ninS (Ne.symm G74_39) (ninS (Ne.symm ne111) nin0))))))))))
          refine wvirtual C X89 (y := (⟨"com/example/hornwork/hornwork/FibonacciHeap", "removeLeast", "()I"⟩ : MethodName)) (z := (⟨"com/example/hornwork/hornwork/FibonacciHeap", "removeLeast", "()I"⟩ : MethodName)) (tw_61 hw) (tw_62 hw) (notFace_of_selects (args := #[]) (mvT C.2.1 (tw_64 hw))) (tw_64 hw) (tw_63 hw) (tw_65 hw) (tw_3 hw) (by decide) (rm9_C l Z a0 hw [] b73 ky_74 pa_74 ch_74 le_74 ri_74 de_74 mk_74 co_74 ro_74 rd_74 kri_74 kle_74 kch_74 kpa_74 kco_74 kde_74 kmk_74 kro_74 krd_74 kky_74 (own_upd (own_upd (own_upd (own_upd (own_upd (own_upd (own_upd (fun _ => 0) 0 0) 1 1) 0 1) 1 0) 2 2) 1 2) 2 0) (own_upd (own_upd (own_upd (own_upd (own_upd (own_upd (own_upd (fun _ => 0) 0 0) 1 1) 1 0) 0 1) 2 2) 2 1) 0 2) (own_upd (own_upd (own_upd (fun _ => 0) 0 (-1)) 1 (-1)) 2 (-1)) (own_upd (own_upd (own_upd (fun _ => 0) 0 (-1)) 1 (-1)) 2 (-1)) (own_upd (own_upd (own_upd (fun _ => 0) 0 1) 1 1) 2 1) (own_upd (own_upd (own_upd (fun _ => 0) 0 0) 1 0) 2 0) (own_upd (own_upd (own_upd (fun _ => 0) 0 0) 1 0) 2 0) (fun _ => 0) RD_74 (own_updD (own_updD (own_updD (fun _ => 0) 0 (FP.i2d q0)) 1 (FP.i2d q1)) 2 (FP.i2d q2)) 2 0 1 (own_upd (own_upd (own_upd (fun _ => 0) 0 q0.toInt) 1 q1.toInt) 2 q2.toInt) T88.heap n0 (Nat.le_trans (Nat.le_trans q87 K86.1) K88.1) G88_0 G88_1 G88_2 G88_3 G88_4 G88_5 G88_6 G88_7 G88_8 G88_9 G88_10 G88_11 G88_18 G88_19 G88_14 G88_13 G88_17 G88_15 G88_16 q110 q112 G88_12 (Nat.le_trans Z0 sz73) (Nat.le_trans Z0 szG74_4) (Nat.le_trans Z0 szG74_3) (Nat.le_trans Z0 szG74_2) (Nat.le_trans Z0 szG74_1) (Nat.le_trans Z0 szG74_7) (Nat.le_trans Z0 szG74_5) (Nat.le_trans Z0 szG74_6) (Nat.le_trans Z0 szG74_8) (Nat.le_trans Z0 szG74_9) (by omega) (by omega) (by omega) (by omega) (by omega) (by omega) (own_hK (own_hK (own_hK own_hK0 (own_i2d q0)) (own_i2d q1)) (own_i2d q2)) (own_us _ _ _) ((own_un (by decide)).trans ((own_un (by decide)).trans (own_us _ _ _))) ((own_un (by decide)).trans (own_us _ _ _)) (own_us _ _ _) ((own_un (by decide)).trans ((own_un (by decide)).trans ((own_un (by decide)).trans ((own_un (by decide)).trans (own_us _ _ _))))) ((own_un (by decide)).trans (own_us _ _ _)) ((own_un (by decide)).trans ((own_un (by decide)).trans ((own_un (by decide)).trans ((own_un (by decide)).trans (own_us _ _ _))))) ((own_un (by decide)).trans ((own_un (by decide)).trans (own_us _ _ _))) ((own_un (by decide)).trans (own_us _ _ _)) (G74_77 0 (by decide)) (G74_77 1 (by decide)) ne84 G74_34 ne83 G74_27 G74_28 (Ne.symm G74_20) G74_21 (Ne.symm G74_35) (Ne.symm G74_40) G74_36 (Ne.symm G74_41) G74_38 G74_43 G74_39 (Ne.symm G74_44) G74_12 G74_13 ne109 G74_47 (Ne.symm G74_54) ne111 G74_48 G74_17 G74_18 G74_32 G74_33 G74_25 G74_26 G74_50 G74_51 ne79 (Ne.symm G74_19) ne78 G74_29 (Ne.symm G74_22) ne80 G74_30 (Ne.symm G74_23) G74_45 ne81 (Ne.symm G74_37) (Ne.symm G74_42) ne82 G74_53 G74_52 (Ne.symm G74_49) (Ne.symm G74_46) (Ne.symm G74_24) G74_31) eq89 (a := b73) G88_0 f0_94 (argsL := []) (rest := []) rfl rfl (lenOf pd_7 rfl) rfl (W := 0) (Nat.le_of_eq rfl) (by decide) (by decide) (by decide) (by decide) ?_
          intro v108 T108 L108 X108 q108
          obtain ⟨tp_108, ot_108, rfl, Nq108, K108, G108_0, G108_1, G108_2, G108_3, G108_4, G108_5, G108_6, G108_7, G108_8, G108_9, G108_10, G108_11, G108_12, G108_13, G108_14, G108_15, G108_16, G108_17, G108_18, G108_19, G108_20, G108_21⟩ := q108
          have q113 := (Nat.le_trans (Nat.le_trans (Nat.le_trans q85 K76.1) K86.1) K88.1)
          have N108 := Fr.app N89 Nq108
          show Go p e below s _ _ _ T108 (mkF m 97 #[.val (.int y1), .val (.int y2), .val (.int q0), .val (.int q1), .val (.int q2), .val (.int (3 : Int32)), .val (.int (3 : Int32)), .val (.ref b73), .val (.int (1 : Int32)), .val (.int (0 : Int32)), .unset] [(.int (Int32.ofInt 2))])
          have htp : tp_108 < 3 ∧ ot_108 < 3 ∧ tp_108 ≠ ot_108 ∧ tp_108 ≠ 2 ∧ ot_108 ≠ 2 := by rcases G108_21 with ⟨z1, z2, -⟩ | ⟨z1, z2, -⟩ <;> omega
          refine wpop C X108 f0_97 rfl ?_
          refine wiload C X108 f0_98 rfl ?_
          refine wiconst C X108 f0_100 (2 : Int32) rfl ?_
          refine wicmp_lt C X108 f0_101 (fun q => absurd q (by decide : ¬ ((3 : Int32) < (2 : Int32)))) ?_
          intro _
          refine waload C X108 f0_104 rfl rfl ?_
          have q115 := (Nat.le_trans (Nat.le_trans (Nat.le_trans q87 K86.1) K88.1) K108.1)
          refine wvirtual C X108 (y := (⟨"com/example/hornwork/hornwork/FibonacciHeap", "removeLeast", "()I"⟩ : MethodName)) (z := (⟨"com/example/hornwork/hornwork/FibonacciHeap", "removeLeast", "()I"⟩ : MethodName)) (tw_61 hw) (tw_62 hw) (notFace_of_selects (args := #[]) (mvT C.2.1 (tw_64 hw))) (tw_64 hw) (tw_63 hw) (tw_65 hw) (tw_3 hw) (by decide) (rm9_D l Z a0 hw [] b73 ky_74 pa_74 ch_74 le_74 ri_74 de_74 mk_74 co_74 ro_74 rd_74 kri_74 kle_74 kch_74 kpa_74 kco_74 kde_74 kro_74 krd_74 (own_upd (own_upd (own_upd (own_upd (own_upd (own_upd (own_upd (own_upd (own_upd (own_upd (own_upd (fun _ => 0) 0 0) 1 1) 0 1) 1 0) 2 2) 1 2) 2 0) 1 0) 2 2) tp_108 tp_108) ot_108 ot_108) (own_upd (own_upd (own_upd (own_upd (own_upd (own_upd (own_upd (own_upd (own_upd (own_upd (own_upd (fun _ => 0) 0 0) 1 1) 1 0) 0 1) 2 2) 2 1) 0 2) 0 1) 2 2) tp_108 tp_108) ot_108 ot_108) (own_upd (own_upd (own_upd (own_upd (own_upd (fun _ => 0) 0 (-1)) 1 (-1)) 2 (-1)) tp_108 ot_108) 2 (-1)) (own_upd (own_upd (own_upd (own_upd (fun _ => 0) 0 (-1)) 1 (-1)) 2 (-1)) ot_108 tp_108) (own_upd (own_upd (own_upd (own_upd (fun _ => 0) 0 1) 1 1) 2 1) 2 0) (own_upd (own_upd (own_upd (own_upd (fun _ => 0) 0 0) 1 0) 2 0) tp_108 1) (own_upd (own_upd (fun _ => 0) 0 0) 1 1) (own_upd (own_upd (own_upd (own_upd (own_upd RD_74 0 0) 0 (-1)) 1 tp_108) 0 (-1)) 1 (-1)) tp_108 ot_108 T108.heap n0 q115 G108_0 G108_1 G108_2 G108_3 G108_4 G108_5 G108_6 G108_7 G108_8 G108_9 G108_10 G108_11 G108_12 G108_13 G108_14 G108_15 G108_16 G108_17 G108_19 G108_20 (Nat.le_trans Z0 sz73) (Nat.le_trans Z0 szG74_4) (Nat.le_trans Z0 szG74_3) (Nat.le_trans Z0 szG74_2) (Nat.le_trans Z0 szG74_1) (Nat.le_trans Z0 szG74_7) (Nat.le_trans Z0 szG74_5) (Nat.le_trans Z0 szG74_8) (Nat.le_trans Z0 szG74_9) (by omega) (by omega) (by omega) ((own_un (by omega)).trans (own_us _ _ _)) ((own_un (by omega)).trans (own_us _ _ _)) (own_us _ _ _) (own_us _ _ _) (G108_21.elim (fun z => by obtain ⟨rfl, rfl, -⟩ := z; first | rfl | exact (own_un (by decide)).trans ((own_un (by decide)).trans (own_us _ _ _))) (fun z => by obtain ⟨rfl, rfl, -⟩ := z; first | rfl | exact (own_un (by decide)).trans ((own_un (by decide)).trans ((own_un (by decide)).trans (own_us _ _ _))))) ((own_un (by decide)).trans (own_us _ _ _)) ne78 G74_21 (Ne.symm G74_20) ne84 G74_34 ne83 (Ne.symm G74_22) (Ne.symm G74_35) (Ne.symm G74_40) G74_25 G74_38 G74_43 G74_26 G74_39 (Ne.symm G74_44) ne109 G74_47 (Ne.symm G74_54) ne111 (Ne.symm G74_24) (Ne.symm G74_37) (Ne.symm G74_42) ne82 G74_53 G74_52 (Ne.symm G74_19) G74_27 G74_28 ne79 G74_33 G74_32 G74_31) rfl (a := b73) G108_0 f0_106 (argsL := []) (rest := []) rfl rfl (lenOf pd_7 rfl) rfl (W := 0) (Nat.le_of_eq rfl) (by decide) (by decide) (by decide) (by decide) ?_
          intro v114 T114 L114 X114 q114
          obtain ⟨rfl, Nq114, K114, G114_0, G114_1, G114_2, G114_3, G114_4, G114_5, G114_6, G114_7, G114_8, G114_9, G114_10, G114_11, G114_12, G114_13, G114_14, G114_15, G114_16, G114_17, G114_18⟩ := q114
          have N114 := Fr.app N108 Nq114
          show Go p e below s _ _ _ T114 (mkF m 109 #[.val (.int y1), .val (.int y2), .val (.int q0), .val (.int q1), .val (.int q2), .val (.int (3 : Int32)), .val (.int (3 : Int32)), .val (.ref b73), .val (.int (1 : Int32)), .val (.int (0 : Int32)), .unset] [(.int (Int32.ofInt tp_108))])
          refine wpop C X114 f0_109 rfl ?_
          refine wiload C X114 f0_110 rfl ?_
          refine wiconst C X114 f0_112 (3 : Int32) rfl ?_
          refine wicmp_lt C X114 f0_113 (fun q => absurd q (by decide : ¬ ((3 : Int32) < (3 : Int32)))) ?_
          intro _
          refine waload C X114 f0_116 rfl rfl ?_
          refine wvirtual C X114 (y := (⟨"com/example/hornwork/hornwork/FibonacciHeap", "removeLeast", "()I"⟩ : MethodName)) (z := (⟨"com/example/hornwork/hornwork/FibonacciHeap", "removeLeast", "()I"⟩ : MethodName)) (tw_61 hw) (tw_62 hw) (notFace_of_selects (args := #[]) (mvT C.2.1 (tw_64 hw))) (tw_64 hw) (tw_63 hw) (tw_65 hw) (tw_3 hw) (by decide) (rm9_A l Z a0 hw [] b73 ky_74 pa_74 ch_74 le_74 ri_74 de_74 mk_74 co_74 ro_74 rd_74 kri_74 kch_74 kco_74 (own_upd (own_upd (own_upd (own_upd (own_upd (own_upd (own_upd (own_upd (own_upd (own_upd (own_upd (own_upd (own_upd (own_upd (own_upd (fun _ => 0) 0 0) 1 1) 0 1) 1 0) 2 2) 1 2) 2 0) 1 0) 2 2) tp_108 tp_108) ot_108 ot_108) tp_108 ot_108) ot_108 tp_108) ot_108 ot_108) tp_108 tp_108) (own_upd (own_upd (own_upd (own_upd (own_upd (own_upd (fun _ => 0) 0 (-1)) 1 (-1)) 2 (-1)) tp_108 ot_108) 2 (-1)) tp_108 (-1)) (own_upd (own_upd (own_upd (own_upd (own_upd (fun _ => 0) 0 1) 1 1) 2 1) 2 0) tp_108 0) ot_108 T114.heap n0 (Nat.le_trans q115 K114.1) G114_0 G114_1 G114_2 G114_3 G114_4 G114_5 G114_6 G114_7 G114_8 G114_9 G114_10 G114_11 G114_12 G114_14 G114_16 (Nat.le_trans Z0 sz73) (Nat.le_trans Z0 szG74_4) (Nat.le_trans Z0 szG74_2) (Nat.le_trans Z0 szG74_7) (by omega) (G108_21.elim (fun z => by obtain ⟨rfl, rfl, -⟩ := z; first | rfl | exact (own_un (by decide)).trans ((own_un (by decide)).trans ((own_un (by decide)).trans ((own_un (by decide)).trans (own_us _ _ _))))) (fun z => by obtain ⟨rfl, rfl, -⟩ := z; first | rfl | exact (own_un (by decide)).trans ((own_un (by decide)).trans ((own_un (by decide)).trans ((own_un (by decide)).trans ((own_un (by decide)).trans (own_us _ _ _))))))) ((own_un (by omega)).trans (own_us _ _ _)) ne82 ne79 G74_31) rfl (a := b73) G114_0 f0_118 (argsL := []) (rest := []) rfl rfl (lenOf pd_7 rfl) rfl (W := 0) (Nat.le_of_eq rfl) (by decide) (by decide) (by decide) (by decide) ?_
          intro v116 T116 L116 X116 q116
          obtain ⟨rfl, Nq116, K116, G116_0, G116_1, G116_2, G116_3, G116_4, G116_5, G116_6, G116_7, G116_8, G116_9, G116_10, G116_11, G116_12, G116_13⟩ := q116
          have N116 := Fr.app N114 Nq116
          show Go p e below s _ _ _ T116 (mkF m 121 #[.val (.int y1), .val (.int y2), .val (.int q0), .val (.int q1), .val (.int q2), .val (.int (3 : Int32)), .val (.int (3 : Int32)), .val (.ref b73), .val (.int (1 : Int32)), .val (.int (0 : Int32)), .unset] [(.int (Int32.ofInt ot_108))])
          refine wpop C X116 f0_121 rfl ?_
          refine waload C X116 f0_122 rfl rfl ?_
          refine wvirtual C X116 (y := (⟨"com/example/hornwork/hornwork/FibonacciHeap", "isEmpty", "()Z"⟩ : MethodName)) (z := (⟨"com/example/hornwork/hornwork/FibonacciHeap", "isEmpty", "()Z"⟩ : MethodName)) (tw_39 hw) (tw_40 hw) (notFace_of_selects (args := #[]) (mvT C.2.1 (tw_42 hw))) (tw_42 hw) (tw_41 hw) (tw_43 hw) (tw_3 hw) (by decide) (rm4_0 l Z a0 hw [] b73 T116.heap n0 (Nat.le_trans (Nat.le_trans q115 K114.1) K116.1) G116_11) rfl (a := b73) G116_0 f0_124 (argsL := []) (rest := []) rfl rfl (lenOf pd_5 rfl) rfl (W := 0) (Nat.le_of_eq rfl) (by decide) (by decide) (by decide) (by decide) ?_
          intro v117 T117 L117 X117 q117
          obtain ⟨rfl, Nq117, eq117⟩ := q117
          have N117 := Fr.app N116 Nq117
          show Go p e below s _ _ _ T117 (mkF m 127 #[.val (.int y1), .val (.int y2), .val (.int q0), .val (.int q1), .val (.int q2), .val (.int (3 : Int32)), .val (.int (3 : Int32)), .val (.ref b73), .val (.int (1 : Int32)), .val (.int (0 : Int32)), .unset] [(.int (1 : Int32))])
          refine wistore C X117 f0_127 #[.val (.int y1), .val (.int y2), .val (.int q0), .val (.int q1), .val (.int q2), .val (.int (3 : Int32)), .val (.int (3 : Int32)), .val (.ref b73), .val (.int (1 : Int32)), .val (.int (0 : Int32)), .val (.int (1 : Int32))] rfl ?_
          refine wiload C X117 f0_129 rfl ?_
          refine wif_eq C X117 f0_131 (fun q => absurd q (by decide : ¬ ((1 : Int32) = (0 : Int32)))) ?_
          intro _
          refine wiload C X117 f0_134 rfl ?_
          refine wiload C X117 f0_136 rfl ?_
          refine wif_ne C X117 f0_138 (fun q => absurd q (by decide : ¬ ((3 : Int32) = (0 : Int32)))) ?_
          intro _
          refine wiconst C X117 f0_145 (0 : Int32) rfl ?_
          refine wicmp_ne C X117 f0_146 ?_ (fun q => absurd (by decide : ((0 : Int32) = (0 : Int32))) q)
          intro _
          refine wiload C X117 f0_149 rfl ?_
          refine wiload C X117 f0_151 rfl ?_
          refine wiload C X117 f0_153 rfl ?_
          refine wicmp_ne C X117 f0_155 ?_ (fun q => absurd (by decide : ((3 : Int32) = (3 : Int32))) q)
          intro _
          refine wiconst C X117 f0_158 (1 : Int32) rfl ?_
          refine wgoto C X117 f0_159 ?_
          refine wicmp_ne C X117 f0_163 ?_ (fun q => absurd (by decide : ((1 : Int32) = (1 : Int32))) q)
          intro _
          refine wiconst C X117 f0_166 (1 : Int32) rfl ?_
          refine wgoto C X117 f0_167 ?_
          refine wiretN C X117 (t := .boolean) (by simp) f0_171 rfl (1 : Int32) (by decide) (by decide) (by decide) ?_
          rw [eq117]
          exact ⟨rfl, N117⟩
      · refine waload C X88 f0_79 rfl rfl ?_
        refine wvirtual C X88 (y := (⟨"com/example/hornwork/hornwork/FibonacciHeap", "isEmpty", "()Z"⟩ : MethodName)) (z := (⟨"com/example/hornwork/hornwork/FibonacciHeap", "isEmpty", "()Z"⟩ : MethodName)) (tw_39 hw) (tw_40 hw) (notFace_of_selects (args := #[]) (mvT C.2.1 (tw_42 hw))) (tw_42 hw) (tw_41 hw) (tw_43 hw) (tw_3 hw) (by decide) (rm4_1 l Z a0 hw [] b73 1 T88.heap n0 (Nat.le_trans (Nat.le_trans q87 K86.1) K88.1) G88_11 (by omega)) rfl (a := b73) G88_0 f0_81 (argsL := []) (rest := []) rfl rfl (lenOf pd_5 rfl) rfl (W := 0) (Nat.le_of_eq rfl) (by decide) (by decide) (by decide) (by decide) ?_
        intro v118 T118 L118 X118 q118
        obtain ⟨rfl, Nq118, eq118⟩ := q118
        have N118 := Fr.app N88 Nq118
        show Go p e below s _ _ _ T118 (mkF m 84 #[.val (.int y1), .val (.int y2), .val (.int q0), .val (.int q1), .val (.int q2), .val (.int (3 : Int32)), .val (.int mm), .val (.ref b73), .val (.int (1 : Int32)), .unset, .unset] [(.int (0 : Int32))])
        refine wistore C X118 f0_84 #[.val (.int y1), .val (.int y2), .val (.int q0), .val (.int q1), .val (.int q2), .val (.int (3 : Int32)), .val (.int mm), .val (.ref b73), .val (.int (1 : Int32)), .val (.int (0 : Int32)), .unset] rfl ?_
        rcases own_s3 hmm with rfl | rfl | rfl | rfl
        · refine wiload C X118 f0_86 rfl ?_
          refine wiconst C X118 f0_88 (1 : Int32) rfl ?_
          refine wicmp_lt C X118 f0_89 ?_ (fun q => absurd (by decide : ((0 : Int32) < (1 : Int32))) q)
          intro _
          refine wiload C X118 f0_98 rfl ?_
          refine wiconst C X118 f0_100 (2 : Int32) rfl ?_
          refine wicmp_lt C X118 f0_101 ?_ (fun q => absurd (by decide : ((0 : Int32) < (2 : Int32))) q)
          intro _
          refine wiload C X118 f0_110 rfl ?_
          refine wiconst C X118 f0_112 (3 : Int32) rfl ?_
          refine wicmp_lt C X118 f0_113 ?_ (fun q => absurd (by decide : ((0 : Int32) < (3 : Int32))) q)
          intro _
          refine waload C X118 f0_122 rfl rfl ?_
          refine wvirtual C X118 (y := (⟨"com/example/hornwork/hornwork/FibonacciHeap", "isEmpty", "()Z"⟩ : MethodName)) (z := (⟨"com/example/hornwork/hornwork/FibonacciHeap", "isEmpty", "()Z"⟩ : MethodName)) (tw_39 hw) (tw_40 hw) (notFace_of_selects (args := #[]) (mvT C.2.1 (tw_42 hw))) (tw_42 hw) (tw_41 hw) (tw_43 hw) (tw_3 hw) (by decide) (rm4_1 l Z a0 hw [] b73 1 T88.heap n0 (Nat.le_trans (Nat.le_trans q87 K86.1) K88.1) G88_11 (by omega)) eq118 (a := b73) G88_0 f0_124 (argsL := []) (rest := []) rfl rfl (lenOf pd_5 rfl) rfl (W := 0) (Nat.le_of_eq rfl) (by decide) (by decide) (by decide) (by decide) ?_
          intro v119 T119 L119 X119 q119
          obtain ⟨rfl, Nq119, eq119⟩ := q119
          have N119 := Fr.app N118 Nq119
          show Go p e below s _ _ _ T119 (mkF m 127 #[.val (.int y1), .val (.int y2), .val (.int q0), .val (.int q1), .val (.int q2), .val (.int (3 : Int32)), .val (.int (0 : Int32)), .val (.ref b73), .val (.int (1 : Int32)), .val (.int (0 : Int32)), .unset] [(.int (0 : Int32))])
          refine wistore C X119 f0_127 #[.val (.int y1), .val (.int y2), .val (.int q0), .val (.int q1), .val (.int q2), .val (.int (3 : Int32)), .val (.int (0 : Int32)), .val (.ref b73), .val (.int (1 : Int32)), .val (.int (0 : Int32)), .val (.int (0 : Int32))] rfl ?_
          refine wiload C X119 f0_129 rfl ?_
          refine wif_eq C X119 f0_131 (fun q => absurd q (by decide : ¬ ((1 : Int32) = (0 : Int32)))) ?_
          intro _
          refine wiload C X119 f0_134 rfl ?_
          refine wiload C X119 f0_136 rfl ?_
          refine wif_ne C X119 f0_138 (fun q => absurd q (by decide : ¬ ((3 : Int32) = (0 : Int32)))) ?_
          intro _
          refine wiconst C X119 f0_145 (0 : Int32) rfl ?_
          refine wicmp_ne C X119 f0_146 ?_ (fun q => absurd (by decide : ((0 : Int32) = (0 : Int32))) q)
          intro _
          refine wiload C X119 f0_149 rfl ?_
          refine wiload C X119 f0_151 rfl ?_
          refine wiload C X119 f0_153 rfl ?_
          refine wicmp_ne C X119 f0_155 (fun q => absurd q (by decide : ¬ ((0 : Int32) = (3 : Int32)))) ?_
          intro _
          refine wiconst C X119 f0_162 (0 : Int32) rfl ?_
          refine wicmp_ne C X119 f0_163 ?_ (fun q => absurd (by decide : ((0 : Int32) = (0 : Int32))) q)
          intro _
          refine wiconst C X119 f0_166 (1 : Int32) rfl ?_
          refine wgoto C X119 f0_167 ?_
          refine wiretN C X119 (t := .boolean) (by simp) f0_171 rfl (1 : Int32) (by decide) (by decide) (by decide) ?_
          rw [eq119]
          exact ⟨rfl, N119⟩
        · refine wiload C X118 f0_86 rfl ?_
          refine wiconst C X118 f0_88 (1 : Int32) rfl ?_
          refine wicmp_lt C X118 f0_89 (fun q => absurd q (by decide : ¬ ((1 : Int32) < (1 : Int32)))) ?_
          intro _
          refine waload C X118 f0_92 rfl rfl ?_
          have ne121 : b73 ≠ ro_74 := (Nat.ne_of_lt (Nat.lt_of_lt_of_le A73.lt G74_8))
          have q122 := (((G74_75.keep K76 (ninS (Ne.symm G74_17) (ninS (Ne.symm G74_25) (ninS (Ne.symm G74_32) (ninS (Ne.symm G74_47) (ninS (Ne.symm G74_50) (ninS (Ne.symm G74_52) (ninS (Ne.symm G74_43) (ninS (Ne.symm G74_38) (ninS (Ne.symm ne121) nin0)))))))))).keep K86 (ninS (Ne.symm G74_17) (ninS (Ne.symm G74_25) (ninS (Ne.symm G74_32) (ninS (Ne.symm G74_47) (ninS (Ne.symm G74_50) (ninS (Ne.symm G74_52) (ninS (Ne.symm G74_43) (ninS (Ne.symm G74_38) (ninS (Ne.symm ne121) nin0)))))))))).keep K88 (ninS (Ne.symm G74_17) (ninS (Ne.symm G74_25) (ninS (Ne.symm G74_32) (ninS (Ne.symm G74_47) (ninS (Ne.symm G74_50) (ninS (Ne.symm G74_52) (ninS (Ne.symm G74_43) (ninS (Ne.symm G74_38) (ninS (Ne.symm ne121) nin0))))))))))
          have ne123 : b73 ≠ rd_74 := (Nat.ne_of_lt (Nat.lt_of_lt_of_le A73.lt G74_9))
          have q124 := (((G74_76.keep K76 (ninS (Ne.symm G74_18) (ninS (Ne.symm G74_26) (ninS (Ne.symm G74_33) (ninS (Ne.symm G74_48) (ninS (Ne.symm G74_51) (ninS (Ne.symm G74_53) (ninS (Ne.symm G74_44) (ninS (Ne.symm G74_39) (ninS (Ne.symm ne123) nin0)))))))))).keep K86 (ninS (Ne.symm G74_18) (ninS (Ne.symm G74_26) (ninS (Ne.symm G74_33) (ninS (Ne.symm G74_48) (ninS (Ne.symm G74_51) (ninS (Ne.symm G74_53) (ninS (Ne.symm G74_44) (ninS (Ne.symm G74_39) (ninS (Ne.symm ne123) nin0)))))))))).keep K88 (ninS (Ne.symm G74_18) (ninS (Ne.symm G74_26) (ninS (Ne.symm G74_33) (ninS (Ne.symm G74_48) (ninS (Ne.symm G74_51) (ninS (Ne.symm G74_53) (ninS (Ne.symm G74_44) (ninS (Ne.symm G74_39) (ninS (Ne.symm ne123) nin0))))))))))
          refine wvirtual C X118 (y := (⟨"com/example/hornwork/hornwork/FibonacciHeap", "removeLeast", "()I"⟩ : MethodName)) (z := (⟨"com/example/hornwork/hornwork/FibonacciHeap", "removeLeast", "()I"⟩ : MethodName)) (tw_61 hw) (tw_62 hw) (notFace_of_selects (args := #[]) (mvT C.2.1 (tw_64 hw))) (tw_64 hw) (tw_63 hw) (tw_65 hw) (tw_3 hw) (by decide) (rm9_C l Z a0 hw [] b73 ky_74 pa_74 ch_74 le_74 ri_74 de_74 mk_74 co_74 ro_74 rd_74 kri_74 kle_74 kch_74 kpa_74 kco_74 kde_74 kmk_74 kro_74 krd_74 kky_74 (own_upd (own_upd (own_upd (own_upd (own_upd (own_upd (own_upd (fun _ => 0) 0 0) 1 1) 0 1) 1 0) 2 2) 1 2) 2 0) (own_upd (own_upd (own_upd (own_upd (own_upd (own_upd (own_upd (fun _ => 0) 0 0) 1 1) 1 0) 0 1) 2 2) 2 1) 0 2) (own_upd (own_upd (own_upd (fun _ => 0) 0 (-1)) 1 (-1)) 2 (-1)) (own_upd (own_upd (own_upd (fun _ => 0) 0 (-1)) 1 (-1)) 2 (-1)) (own_upd (own_upd (own_upd (fun _ => 0) 0 1) 1 1) 2 1) (own_upd (own_upd (own_upd (fun _ => 0) 0 0) 1 0) 2 0) (own_upd (own_upd (own_upd (fun _ => 0) 0 0) 1 0) 2 0) (fun _ => 0) RD_74 (own_updD (own_updD (own_updD (fun _ => 0) 0 (FP.i2d q0)) 1 (FP.i2d q1)) 2 (FP.i2d q2)) 1 2 0 (own_upd (own_upd (own_upd (fun _ => 0) 0 q0.toInt) 1 q1.toInt) 2 q2.toInt) T88.heap n0 (Nat.le_trans (Nat.le_trans q87 K86.1) K88.1) G88_0 G88_1 G88_2 G88_3 G88_4 G88_5 G88_6 G88_7 G88_8 G88_9 G88_10 G88_11 G88_18 G88_19 G88_14 G88_13 G88_17 G88_15 G88_16 q122 q124 G88_12 (Nat.le_trans Z0 sz73) (Nat.le_trans Z0 szG74_4) (Nat.le_trans Z0 szG74_3) (Nat.le_trans Z0 szG74_2) (Nat.le_trans Z0 szG74_1) (Nat.le_trans Z0 szG74_7) (Nat.le_trans Z0 szG74_5) (Nat.le_trans Z0 szG74_6) (Nat.le_trans Z0 szG74_8) (Nat.le_trans Z0 szG74_9) (by omega) (by omega) (by omega) (by omega) (by omega) (by omega) (own_hK (own_hK (own_hK own_hK0 (own_i2d q0)) (own_i2d q1)) (own_i2d q2)) ((own_un (by decide)).trans (own_us _ _ _)) (own_us _ _ _) ((own_un (by decide)).trans ((own_un (by decide)).trans (own_us _ _ _))) ((own_un (by decide)).trans (own_us _ _ _)) (own_us _ _ _) ((own_un (by decide)).trans ((own_un (by decide)).trans ((own_un (by decide)).trans ((own_un (by decide)).trans (own_us _ _ _))))) (own_us _ _ _) (own_us _ _ _) ((own_un (by decide)).trans ((own_un (by decide)).trans (own_us _ _ _))) (G74_77 0 (by decide)) (G74_77 1 (by decide)) ne84 G74_34 ne83 G74_27 G74_28 (Ne.symm G74_20) G74_21 (Ne.symm G74_35) (Ne.symm G74_40) G74_36 (Ne.symm G74_41) G74_38 G74_43 G74_39 (Ne.symm G74_44) G74_12 G74_13 ne121 G74_47 (Ne.symm G74_54) ne123 G74_48 G74_17 G74_18 G74_32 G74_33 G74_25 G74_26 G74_50 G74_51 ne79 (Ne.symm G74_19) ne78 G74_29 (Ne.symm G74_22) ne80 G74_30 (Ne.symm G74_23) G74_45 ne81 (Ne.symm G74_37) (Ne.symm G74_42) ne82 G74_53 G74_52 (Ne.symm G74_49) (Ne.symm G74_46) (Ne.symm G74_24) G74_31) eq118 (a := b73) G88_0 f0_94 (argsL := []) (rest := []) rfl rfl (lenOf pd_7 rfl) rfl (W := 0) (Nat.le_of_eq rfl) (by decide) (by decide) (by decide) (by decide) ?_
          intro v120 T120 L120 X120 q120
          obtain ⟨tp_120, ot_120, rfl, Nq120, K120, G120_0, G120_1, G120_2, G120_3, G120_4, G120_5, G120_6, G120_7, G120_8, G120_9, G120_10, G120_11, G120_12, G120_13, G120_14, G120_15, G120_16, G120_17, G120_18, G120_19, G120_20, G120_21⟩ := q120
          have q125 := (Nat.le_trans (Nat.le_trans (Nat.le_trans q85 K76.1) K86.1) K88.1)
          have N120 := Fr.app N118 Nq120
          show Go p e below s _ _ _ T120 (mkF m 97 #[.val (.int y1), .val (.int y2), .val (.int q0), .val (.int q1), .val (.int q2), .val (.int (3 : Int32)), .val (.int (1 : Int32)), .val (.ref b73), .val (.int (1 : Int32)), .val (.int (0 : Int32)), .unset] [(.int (Int32.ofInt 1))])
          have htp : tp_120 < 3 ∧ ot_120 < 3 ∧ tp_120 ≠ ot_120 ∧ tp_120 ≠ 1 ∧ ot_120 ≠ 1 := by rcases G120_21 with ⟨z1, z2, -⟩ | ⟨z1, z2, -⟩ <;> omega
          refine wpop C X120 f0_97 rfl ?_
          refine wiload C X120 f0_98 rfl ?_
          refine wiconst C X120 f0_100 (2 : Int32) rfl ?_
          refine wicmp_lt C X120 f0_101 ?_ (fun q => absurd (by decide : ((1 : Int32) < (2 : Int32))) q)
          intro _
          refine wiload C X120 f0_110 rfl ?_
          refine wiconst C X120 f0_112 (3 : Int32) rfl ?_
          refine wicmp_lt C X120 f0_113 ?_ (fun q => absurd (by decide : ((1 : Int32) < (3 : Int32))) q)
          intro _
          refine waload C X120 f0_122 rfl rfl ?_
          have q127 := (Nat.le_trans (Nat.le_trans (Nat.le_trans q87 K86.1) K88.1) K120.1)
          refine wvirtual C X120 (y := (⟨"com/example/hornwork/hornwork/FibonacciHeap", "isEmpty", "()Z"⟩ : MethodName)) (z := (⟨"com/example/hornwork/hornwork/FibonacciHeap", "isEmpty", "()Z"⟩ : MethodName)) (tw_39 hw) (tw_40 hw) (notFace_of_selects (args := #[]) (mvT C.2.1 (tw_42 hw))) (tw_42 hw) (tw_41 hw) (tw_43 hw) (tw_3 hw) (by decide) (rm4_1 l Z a0 hw [] b73 tp_120 T120.heap n0 q127 G120_11 (by omega)) rfl (a := b73) G120_0 f0_124 (argsL := []) (rest := []) rfl rfl (lenOf pd_5 rfl) rfl (W := 0) (Nat.le_of_eq rfl) (by decide) (by decide) (by decide) (by decide) ?_
          intro v126 T126 L126 X126 q126
          obtain ⟨rfl, Nq126, eq126⟩ := q126
          have N126 := Fr.app N120 Nq126
          show Go p e below s _ _ _ T126 (mkF m 127 #[.val (.int y1), .val (.int y2), .val (.int q0), .val (.int q1), .val (.int q2), .val (.int (3 : Int32)), .val (.int (1 : Int32)), .val (.ref b73), .val (.int (1 : Int32)), .val (.int (0 : Int32)), .unset] [(.int (0 : Int32))])
          refine wistore C X126 f0_127 #[.val (.int y1), .val (.int y2), .val (.int q0), .val (.int q1), .val (.int q2), .val (.int (3 : Int32)), .val (.int (1 : Int32)), .val (.ref b73), .val (.int (1 : Int32)), .val (.int (0 : Int32)), .val (.int (0 : Int32))] rfl ?_
          refine wiload C X126 f0_129 rfl ?_
          refine wif_eq C X126 f0_131 (fun q => absurd q (by decide : ¬ ((1 : Int32) = (0 : Int32)))) ?_
          intro _
          refine wiload C X126 f0_134 rfl ?_
          refine wiload C X126 f0_136 rfl ?_
          refine wif_ne C X126 f0_138 (fun q => absurd q (by decide : ¬ ((3 : Int32) = (0 : Int32)))) ?_
          intro _
          refine wiconst C X126 f0_145 (0 : Int32) rfl ?_
          refine wicmp_ne C X126 f0_146 ?_ (fun q => absurd (by decide : ((0 : Int32) = (0 : Int32))) q)
          intro _
          refine wiload C X126 f0_149 rfl ?_
          refine wiload C X126 f0_151 rfl ?_
          refine wiload C X126 f0_153 rfl ?_
          refine wicmp_ne C X126 f0_155 (fun q => absurd q (by decide : ¬ ((1 : Int32) = (3 : Int32)))) ?_
          intro _
          refine wiconst C X126 f0_162 (0 : Int32) rfl ?_
          refine wicmp_ne C X126 f0_163 ?_ (fun q => absurd (by decide : ((0 : Int32) = (0 : Int32))) q)
          intro _
          refine wiconst C X126 f0_166 (1 : Int32) rfl ?_
          refine wgoto C X126 f0_167 ?_
          refine wiretN C X126 (t := .boolean) (by simp) f0_171 rfl (1 : Int32) (by decide) (by decide) (by decide) ?_
          rw [eq126]
          exact ⟨rfl, N126⟩
        · refine wiload C X118 f0_86 rfl ?_
          refine wiconst C X118 f0_88 (1 : Int32) rfl ?_
          refine wicmp_lt C X118 f0_89 (fun q => absurd q (by decide : ¬ ((2 : Int32) < (1 : Int32)))) ?_
          intro _
          refine waload C X118 f0_92 rfl rfl ?_
          have ne129 : b73 ≠ ro_74 := (Nat.ne_of_lt (Nat.lt_of_lt_of_le A73.lt G74_8))
          have q130 := (((G74_75.keep K76 (ninS (Ne.symm G74_17) (ninS (Ne.symm G74_25) (ninS (Ne.symm G74_32) (ninS (Ne.symm G74_47) (ninS (Ne.symm G74_50) (ninS (Ne.symm G74_52) (ninS (Ne.symm G74_43) (ninS (Ne.symm G74_38) (ninS (Ne.symm ne129) nin0)))))))))).keep K86 (ninS (Ne.symm G74_17) (ninS (Ne.symm G74_25) (ninS (Ne.symm G74_32) (ninS (Ne.symm G74_47) (ninS (Ne.symm G74_50) (ninS (Ne.symm G74_52) (ninS (Ne.symm G74_43) (ninS (Ne.symm G74_38) (ninS (Ne.symm ne129) nin0)))))))))).keep K88 (ninS (Ne.symm G74_17) (ninS (Ne.symm G74_25) (ninS (Ne.symm G74_32) (ninS (Ne.symm G74_47) (ninS (Ne.symm G74_50) (ninS (Ne.symm G74_52) (ninS (Ne.symm G74_43) (ninS (Ne.symm G74_38) (ninS (Ne.symm ne129) nin0))))))))))
          have ne131 : b73 ≠ rd_74 := (Nat.ne_of_lt (Nat.lt_of_lt_of_le A73.lt G74_9))
          have q132 := (((G74_76.keep K76 (ninS (Ne.symm G74_18) (ninS (Ne.symm G74_26) (ninS (Ne.symm G74_33) (ninS (Ne.symm G74_48) (ninS (Ne.symm G74_51) (ninS (Ne.symm G74_53) (ninS (Ne.symm G74_44) (ninS (Ne.symm G74_39) (ninS (Ne.symm ne131) nin0)))))))))).keep K86 (ninS (Ne.symm G74_18) (ninS (Ne.symm G74_26) (ninS (Ne.symm G74_33) (ninS (Ne.symm G74_48) (ninS (Ne.symm G74_51) (ninS (Ne.symm G74_53) (ninS (Ne.symm G74_44) (ninS (Ne.symm G74_39) (ninS (Ne.symm ne131) nin0)))))))))).keep K88 (ninS (Ne.symm G74_18) (ninS (Ne.symm G74_26) (ninS (Ne.symm G74_33) (ninS (Ne.symm G74_48) (ninS (Ne.symm G74_51) (ninS (Ne.symm G74_53) (ninS (Ne.symm G74_44) (ninS (Ne.symm G74_39) (ninS (Ne.symm ne131) nin0))))))))))
          refine wvirtual C X118 (y := (⟨"com/example/hornwork/hornwork/FibonacciHeap", "removeLeast", "()I"⟩ : MethodName)) (z := (⟨"com/example/hornwork/hornwork/FibonacciHeap", "removeLeast", "()I"⟩ : MethodName)) (tw_61 hw) (tw_62 hw) (notFace_of_selects (args := #[]) (mvT C.2.1 (tw_64 hw))) (tw_64 hw) (tw_63 hw) (tw_65 hw) (tw_3 hw) (by decide) (rm9_C l Z a0 hw [] b73 ky_74 pa_74 ch_74 le_74 ri_74 de_74 mk_74 co_74 ro_74 rd_74 kri_74 kle_74 kch_74 kpa_74 kco_74 kde_74 kmk_74 kro_74 krd_74 kky_74 (own_upd (own_upd (own_upd (own_upd (own_upd (own_upd (own_upd (fun _ => 0) 0 0) 1 1) 0 1) 1 0) 2 2) 1 2) 2 0) (own_upd (own_upd (own_upd (own_upd (own_upd (own_upd (own_upd (fun _ => 0) 0 0) 1 1) 1 0) 0 1) 2 2) 2 1) 0 2) (own_upd (own_upd (own_upd (fun _ => 0) 0 (-1)) 1 (-1)) 2 (-1)) (own_upd (own_upd (own_upd (fun _ => 0) 0 (-1)) 1 (-1)) 2 (-1)) (own_upd (own_upd (own_upd (fun _ => 0) 0 1) 1 1) 2 1) (own_upd (own_upd (own_upd (fun _ => 0) 0 0) 1 0) 2 0) (own_upd (own_upd (own_upd (fun _ => 0) 0 0) 1 0) 2 0) (fun _ => 0) RD_74 (own_updD (own_updD (own_updD (fun _ => 0) 0 (FP.i2d q0)) 1 (FP.i2d q1)) 2 (FP.i2d q2)) 1 2 0 (own_upd (own_upd (own_upd (fun _ => 0) 0 q0.toInt) 1 q1.toInt) 2 q2.toInt) T88.heap n0 (Nat.le_trans (Nat.le_trans q87 K86.1) K88.1) G88_0 G88_1 G88_2 G88_3 G88_4 G88_5 G88_6 G88_7 G88_8 G88_9 G88_10 G88_11 G88_18 G88_19 G88_14 G88_13 G88_17 G88_15 G88_16 q130 q132 G88_12 (Nat.le_trans Z0 sz73) (Nat.le_trans Z0 szG74_4) (Nat.le_trans Z0 szG74_3) (Nat.le_trans Z0 szG74_2) (Nat.le_trans Z0 szG74_1) (Nat.le_trans Z0 szG74_7) (Nat.le_trans Z0 szG74_5) (Nat.le_trans Z0 szG74_6) (Nat.le_trans Z0 szG74_8) (Nat.le_trans Z0 szG74_9) (by omega) (by omega) (by omega) (by omega) (by omega) (by omega) (own_hK (own_hK (own_hK own_hK0 (own_i2d q0)) (own_i2d q1)) (own_i2d q2)) ((own_un (by decide)).trans (own_us _ _ _)) (own_us _ _ _) ((own_un (by decide)).trans ((own_un (by decide)).trans (own_us _ _ _))) ((own_un (by decide)).trans (own_us _ _ _)) (own_us _ _ _) ((own_un (by decide)).trans ((own_un (by decide)).trans ((own_un (by decide)).trans ((own_un (by decide)).trans (own_us _ _ _))))) (own_us _ _ _) (own_us _ _ _) ((own_un (by decide)).trans ((own_un (by decide)).trans (own_us _ _ _))) (G74_77 0 (by decide)) (G74_77 1 (by decide)) ne84 G74_34 ne83 G74_27 G74_28 (Ne.symm G74_20) G74_21 (Ne.symm G74_35) (Ne.symm G74_40) G74_36 (Ne.symm G74_41) G74_38 G74_43 G74_39 (Ne.symm G74_44) G74_12 G74_13 ne129 G74_47 (Ne.symm G74_54) ne131 G74_48 G74_17 G74_18 G74_32 G74_33 G74_25 G74_26 G74_50 G74_51 ne79 (Ne.symm G74_19) ne78 G74_29 (Ne.symm G74_22) ne80 G74_30 (Ne.symm G74_23) G74_45 ne81 (Ne.symm G74_37) (Ne.symm G74_42) ne82 G74_53 G74_52 (Ne.symm G74_49) (Ne.symm G74_46) (Ne.symm G74_24) G74_31) eq118 (a := b73) G88_0 f0_94 (argsL := []) (rest := []) rfl rfl (lenOf pd_7 rfl) rfl (W := 0) (Nat.le_of_eq rfl) (by decide) (by decide) (by decide) (by decide) ?_
          intro v128 T128 L128 X128 q128
          obtain ⟨tp_128, ot_128, rfl, Nq128, K128, G128_0, G128_1, G128_2, G128_3, G128_4, G128_5, G128_6, G128_7, G128_8, G128_9, G128_10, G128_11, G128_12, G128_13, G128_14, G128_15, G128_16, G128_17, G128_18, G128_19, G128_20, G128_21⟩ := q128
          have q133 := (Nat.le_trans (Nat.le_trans (Nat.le_trans q85 K76.1) K86.1) K88.1)
          have N128 := Fr.app N118 Nq128
          show Go p e below s _ _ _ T128 (mkF m 97 #[.val (.int y1), .val (.int y2), .val (.int q0), .val (.int q1), .val (.int q2), .val (.int (3 : Int32)), .val (.int (2 : Int32)), .val (.ref b73), .val (.int (1 : Int32)), .val (.int (0 : Int32)), .unset] [(.int (Int32.ofInt 1))])
          have htp : tp_128 < 3 ∧ ot_128 < 3 ∧ tp_128 ≠ ot_128 ∧ tp_128 ≠ 1 ∧ ot_128 ≠ 1 := by rcases G128_21 with ⟨z1, z2, -⟩ | ⟨z1, z2, -⟩ <;> omega
          refine wpop C X128 f0_97 rfl ?_
          refine wiload C X128 f0_98 rfl ?_
          refine wiconst C X128 f0_100 (2 : Int32) rfl ?_
          refine wicmp_lt C X128 f0_101 (fun q => absurd q (by decide : ¬ ((2 : Int32) < (2 : Int32)))) ?_
          intro _
          refine waload C X128 f0_104 rfl rfl ?_
          have q135 := (Nat.le_trans (Nat.le_trans (Nat.le_trans q87 K86.1) K88.1) K128.1)
          refine wvirtual C X128 (y := (⟨"com/example/hornwork/hornwork/FibonacciHeap", "removeLeast", "()I"⟩ : MethodName)) (z := (⟨"com/example/hornwork/hornwork/FibonacciHeap", "removeLeast", "()I"⟩ : MethodName)) (tw_61 hw) (tw_62 hw) (notFace_of_selects (args := #[]) (mvT C.2.1 (tw_64 hw))) (tw_64 hw) (tw_63 hw) (tw_65 hw) (tw_3 hw) (by decide) (rm9_D l Z a0 hw [] b73 ky_74 pa_74 ch_74 le_74 ri_74 de_74 mk_74 co_74 ro_74 rd_74 kri_74 kle_74 kch_74 kpa_74 kco_74 kde_74 kro_74 krd_74 (own_upd (own_upd (own_upd (own_upd (own_upd (own_upd (own_upd (own_upd (own_upd (own_upd (own_upd (fun _ => 0) 0 0) 1 1) 0 1) 1 0) 2 2) 1 2) 2 0) 0 2) 1 1) tp_128 tp_128) ot_128 ot_128) (own_upd (own_upd (own_upd (own_upd (own_upd (own_upd (own_upd (own_upd (own_upd (own_upd (own_upd (fun _ => 0) 0 0) 1 1) 1 0) 0 1) 2 2) 2 1) 0 2) 2 0) 1 1) tp_128 tp_128) ot_128 ot_128) (own_upd (own_upd (own_upd (own_upd (own_upd (fun _ => 0) 0 (-1)) 1 (-1)) 2 (-1)) tp_128 ot_128) 1 (-1)) (own_upd (own_upd (own_upd (own_upd (fun _ => 0) 0 (-1)) 1 (-1)) 2 (-1)) ot_128 tp_128) (own_upd (own_upd (own_upd (own_upd (fun _ => 0) 0 1) 1 1) 2 1) 1 0) (own_upd (own_upd (own_upd (own_upd (fun _ => 0) 0 0) 1 0) 2 0) tp_128 1) (own_upd (own_upd (fun _ => 0) 0 2) 1 0) (own_upd (own_upd (own_upd (own_upd (own_upd RD_74 0 2) 0 (-1)) 1 tp_128) 0 (-1)) 1 (-1)) tp_128 ot_128 T128.heap n0 q135 G128_0 G128_1 G128_2 G128_3 G128_4 G128_5 G128_6 G128_7 G128_8 G128_9 G128_10 G128_11 G128_12 G128_13 G128_14 G128_15 G128_16 G128_17 G128_19 G128_20 (Nat.le_trans Z0 sz73) (Nat.le_trans Z0 szG74_4) (Nat.le_trans Z0 szG74_3) (Nat.le_trans Z0 szG74_2) (Nat.le_trans Z0 szG74_1) (Nat.le_trans Z0 szG74_7) (Nat.le_trans Z0 szG74_5) (Nat.le_trans Z0 szG74_8) (Nat.le_trans Z0 szG74_9) (by omega) (by omega) (by omega) ((own_un (by omega)).trans (own_us _ _ _)) ((own_un (by omega)).trans (own_us _ _ _)) (own_us _ _ _) (own_us _ _ _) (G128_21.elim (fun z => by obtain ⟨rfl, rfl, -⟩ := z; first | rfl | exact (own_un (by decide)).trans (own_us _ _ _)) (fun z => by obtain ⟨rfl, rfl, -⟩ := z; first | rfl | exact (own_un (by decide)).trans ((own_un (by decide)).trans ((own_un (by decide)).trans (own_us _ _ _))))) ((own_un (by decide)).trans (own_us _ _ _)) ne78 G74_21 (Ne.symm G74_20) ne84 G74_34 ne83 (Ne.symm G74_22) (Ne.symm G74_35) (Ne.symm G74_40) G74_25 G74_38 G74_43 G74_26 G74_39 (Ne.symm G74_44) ne129 G74_47 (Ne.symm G74_54) ne131 (Ne.symm G74_24) (Ne.symm G74_37) (Ne.symm G74_42) ne82 G74_53 G74_52 (Ne.symm G74_19) G74_27 G74_28 ne79 G74_33 G74_32 G74_31) rfl (a := b73) G128_0 f0_106 (argsL := []) (rest := []) rfl rfl (lenOf pd_7 rfl) rfl (W := 0) (Nat.le_of_eq rfl) (by decide) (by decide) (by decide) (by decide) ?_
          intro v134 T134 L134 X134 q134
          obtain ⟨rfl, Nq134, K134, G134_0, G134_1, G134_2, G134_3, G134_4, G134_5, G134_6, G134_7, G134_8, G134_9, G134_10, G134_11, G134_12, G134_13, G134_14, G134_15, G134_16, G134_17, G134_18⟩ := q134
          have N134 := Fr.app N128 Nq134
          show Go p e below s _ _ _ T134 (mkF m 109 #[.val (.int y1), .val (.int y2), .val (.int q0), .val (.int q1), .val (.int q2), .val (.int (3 : Int32)), .val (.int (2 : Int32)), .val (.ref b73), .val (.int (1 : Int32)), .val (.int (0 : Int32)), .unset] [(.int (Int32.ofInt tp_128))])
          refine wpop C X134 f0_109 rfl ?_
          refine wiload C X134 f0_110 rfl ?_
          refine wiconst C X134 f0_112 (3 : Int32) rfl ?_
          refine wicmp_lt C X134 f0_113 ?_ (fun q => absurd (by decide : ((2 : Int32) < (3 : Int32))) q)
          intro _
          refine waload C X134 f0_122 rfl rfl ?_
          refine wvirtual C X134 (y := (⟨"com/example/hornwork/hornwork/FibonacciHeap", "isEmpty", "()Z"⟩ : MethodName)) (z := (⟨"com/example/hornwork/hornwork/FibonacciHeap", "isEmpty", "()Z"⟩ : MethodName)) (tw_39 hw) (tw_40 hw) (notFace_of_selects (args := #[]) (mvT C.2.1 (tw_42 hw))) (tw_42 hw) (tw_41 hw) (tw_43 hw) (tw_3 hw) (by decide) (rm4_1 l Z a0 hw [] b73 ot_128 T134.heap n0 (Nat.le_trans q135 K134.1) G134_11 (by omega)) rfl (a := b73) G134_0 f0_124 (argsL := []) (rest := []) rfl rfl (lenOf pd_5 rfl) rfl (W := 0) (Nat.le_of_eq rfl) (by decide) (by decide) (by decide) (by decide) ?_
          intro v136 T136 L136 X136 q136
          obtain ⟨rfl, Nq136, eq136⟩ := q136
          have N136 := Fr.app N134 Nq136
          show Go p e below s _ _ _ T136 (mkF m 127 #[.val (.int y1), .val (.int y2), .val (.int q0), .val (.int q1), .val (.int q2), .val (.int (3 : Int32)), .val (.int (2 : Int32)), .val (.ref b73), .val (.int (1 : Int32)), .val (.int (0 : Int32)), .unset] [(.int (0 : Int32))])
          refine wistore C X136 f0_127 #[.val (.int y1), .val (.int y2), .val (.int q0), .val (.int q1), .val (.int q2), .val (.int (3 : Int32)), .val (.int (2 : Int32)), .val (.ref b73), .val (.int (1 : Int32)), .val (.int (0 : Int32)), .val (.int (0 : Int32))] rfl ?_
          refine wiload C X136 f0_129 rfl ?_
          refine wif_eq C X136 f0_131 (fun q => absurd q (by decide : ¬ ((1 : Int32) = (0 : Int32)))) ?_
          intro _
          refine wiload C X136 f0_134 rfl ?_
          refine wiload C X136 f0_136 rfl ?_
          refine wif_ne C X136 f0_138 (fun q => absurd q (by decide : ¬ ((3 : Int32) = (0 : Int32)))) ?_
          intro _
          refine wiconst C X136 f0_145 (0 : Int32) rfl ?_
          refine wicmp_ne C X136 f0_146 ?_ (fun q => absurd (by decide : ((0 : Int32) = (0 : Int32))) q)
          intro _
          refine wiload C X136 f0_149 rfl ?_
          refine wiload C X136 f0_151 rfl ?_
          refine wiload C X136 f0_153 rfl ?_
          refine wicmp_ne C X136 f0_155 (fun q => absurd q (by decide : ¬ ((2 : Int32) = (3 : Int32)))) ?_
          intro _
          refine wiconst C X136 f0_162 (0 : Int32) rfl ?_
          refine wicmp_ne C X136 f0_163 ?_ (fun q => absurd (by decide : ((0 : Int32) = (0 : Int32))) q)
          intro _
          refine wiconst C X136 f0_166 (1 : Int32) rfl ?_
          refine wgoto C X136 f0_167 ?_
          refine wiretN C X136 (t := .boolean) (by simp) f0_171 rfl (1 : Int32) (by decide) (by decide) (by decide) ?_
          rw [eq136]
          exact ⟨rfl, N136⟩
        · refine wiload C X118 f0_86 rfl ?_
          refine wiconst C X118 f0_88 (1 : Int32) rfl ?_
          refine wicmp_lt C X118 f0_89 (fun q => absurd q (by decide : ¬ ((3 : Int32) < (1 : Int32)))) ?_
          intro _
          refine waload C X118 f0_92 rfl rfl ?_
          have ne138 : b73 ≠ ro_74 := (Nat.ne_of_lt (Nat.lt_of_lt_of_le A73.lt G74_8))
          have q139 := (((G74_75.keep K76 (ninS (Ne.symm G74_17) (ninS (Ne.symm G74_25) (ninS (Ne.symm G74_32) (ninS (Ne.symm G74_47) (ninS (Ne.symm G74_50) (ninS (Ne.symm G74_52) (ninS (Ne.symm G74_43) (ninS (Ne.symm G74_38) (ninS (Ne.symm ne138) nin0)))))))))).keep K86 (ninS (Ne.symm G74_17) (ninS (Ne.symm G74_25) (ninS (Ne.symm G74_32) (ninS (Ne.symm G74_47) (ninS (Ne.symm G74_50) (ninS (Ne.symm G74_52) (ninS (Ne.symm G74_43) (ninS (Ne.symm G74_38) (ninS (Ne.symm ne138) nin0)))))))))).keep K88 (ninS (Ne.symm G74_17) (ninS (Ne.symm G74_25) (ninS (Ne.symm G74_32) (ninS (Ne.symm G74_47) (ninS (Ne.symm G74_50) (ninS (Ne.symm G74_52) (ninS (Ne.symm G74_43) (ninS (Ne.symm G74_38) (ninS (Ne.symm ne138) nin0))))))))))
          have ne140 : b73 ≠ rd_74 := (Nat.ne_of_lt (Nat.lt_of_lt_of_le A73.lt G74_9))
          have q141 := (((G74_76.keep K76 (ninS (Ne.symm G74_18) (ninS (Ne.symm G74_26) (ninS (Ne.symm G74_33) (ninS (Ne.symm G74_48) (ninS (Ne.symm G74_51) (ninS (Ne.symm G74_53) (ninS (Ne.symm G74_44) (ninS (Ne.symm G74_39) (ninS (Ne.symm ne140) nin0)))))))))).keep K86 (ninS (Ne.symm G74_18) (ninS (Ne.symm G74_26) (ninS (Ne.symm G74_33) (ninS (Ne.symm G74_48) (ninS (Ne.symm G74_51) (ninS (Ne.symm G74_53) (ninS (Ne.symm G74_44) (ninS (Ne.symm G74_39) (ninS (Ne.symm ne140) nin0)))))))))).keep K88 (ninS (Ne.symm G74_18) (ninS (Ne.symm G74_26) (ninS (Ne.symm G74_33) (ninS (Ne.symm G74_48) (ninS (Ne.symm G74_51) (ninS (Ne.symm G74_53) (ninS (Ne.symm G74_44) (ninS (Ne.symm G74_39) (ninS (Ne.symm ne140) nin0))))))))))
          refine wvirtual C X118 (y := (⟨"com/example/hornwork/hornwork/FibonacciHeap", "removeLeast", "()I"⟩ : MethodName)) (z := (⟨"com/example/hornwork/hornwork/FibonacciHeap", "removeLeast", "()I"⟩ : MethodName)) (tw_61 hw) (tw_62 hw) (notFace_of_selects (args := #[]) (mvT C.2.1 (tw_64 hw))) (tw_64 hw) (tw_63 hw) (tw_65 hw) (tw_3 hw) (by decide) (rm9_C l Z a0 hw [] b73 ky_74 pa_74 ch_74 le_74 ri_74 de_74 mk_74 co_74 ro_74 rd_74 kri_74 kle_74 kch_74 kpa_74 kco_74 kde_74 kmk_74 kro_74 krd_74 kky_74 (own_upd (own_upd (own_upd (own_upd (own_upd (own_upd (own_upd (fun _ => 0) 0 0) 1 1) 0 1) 1 0) 2 2) 1 2) 2 0) (own_upd (own_upd (own_upd (own_upd (own_upd (own_upd (own_upd (fun _ => 0) 0 0) 1 1) 1 0) 0 1) 2 2) 2 1) 0 2) (own_upd (own_upd (own_upd (fun _ => 0) 0 (-1)) 1 (-1)) 2 (-1)) (own_upd (own_upd (own_upd (fun _ => 0) 0 (-1)) 1 (-1)) 2 (-1)) (own_upd (own_upd (own_upd (fun _ => 0) 0 1) 1 1) 2 1) (own_upd (own_upd (own_upd (fun _ => 0) 0 0) 1 0) 2 0) (own_upd (own_upd (own_upd (fun _ => 0) 0 0) 1 0) 2 0) (fun _ => 0) RD_74 (own_updD (own_updD (own_updD (fun _ => 0) 0 (FP.i2d q0)) 1 (FP.i2d q1)) 2 (FP.i2d q2)) 1 2 0 (own_upd (own_upd (own_upd (fun _ => 0) 0 q0.toInt) 1 q1.toInt) 2 q2.toInt) T88.heap n0 (Nat.le_trans (Nat.le_trans q87 K86.1) K88.1) G88_0 G88_1 G88_2 G88_3 G88_4 G88_5 G88_6 G88_7 G88_8 G88_9 G88_10 G88_11 G88_18 G88_19 G88_14 G88_13 G88_17 G88_15 G88_16 q139 q141 G88_12 (Nat.le_trans Z0 sz73) (Nat.le_trans Z0 szG74_4) (Nat.le_trans Z0 szG74_3) (Nat.le_trans Z0 szG74_2) (Nat.le_trans Z0 szG74_1) (Nat.le_trans Z0 szG74_7) (Nat.le_trans Z0 szG74_5) (Nat.le_trans Z0 szG74_6) (Nat.le_trans Z0 szG74_8) (Nat.le_trans Z0 szG74_9) (by omega) (by omega) (by omega) (by omega) (by omega) (by omega) (own_hK (own_hK (own_hK own_hK0 (own_i2d q0)) (own_i2d q1)) (own_i2d q2)) ((own_un (by decide)).trans (own_us _ _ _)) (own_us _ _ _) ((own_un (by decide)).trans ((own_un (by decide)).trans (own_us _ _ _))) ((own_un (by decide)).trans (own_us _ _ _)) (own_us _ _ _) ((own_un (by decide)).trans ((own_un (by decide)).trans ((own_un (by decide)).trans ((own_un (by decide)).trans (own_us _ _ _))))) (own_us _ _ _) (own_us _ _ _) ((own_un (by decide)).trans ((own_un (by decide)).trans (own_us _ _ _))) (G74_77 0 (by decide)) (G74_77 1 (by decide)) ne84 G74_34 ne83 G74_27 G74_28 (Ne.symm G74_20) G74_21 (Ne.symm G74_35) (Ne.symm G74_40) G74_36 (Ne.symm G74_41) G74_38 G74_43 G74_39 (Ne.symm G74_44) G74_12 G74_13 ne138 G74_47 (Ne.symm G74_54) ne140 G74_48 G74_17 G74_18 G74_32 G74_33 G74_25 G74_26 G74_50 G74_51 ne79 (Ne.symm G74_19) ne78 G74_29 (Ne.symm G74_22) ne80 G74_30 (Ne.symm G74_23) G74_45 ne81 (Ne.symm G74_37) (Ne.symm G74_42) ne82 G74_53 G74_52 (Ne.symm G74_49) (Ne.symm G74_46) (Ne.symm G74_24) G74_31) eq118 (a := b73) G88_0 f0_94 (argsL := []) (rest := []) rfl rfl (lenOf pd_7 rfl) rfl (W := 0) (Nat.le_of_eq rfl) (by decide) (by decide) (by decide) (by decide) ?_
          intro v137 T137 L137 X137 q137
          obtain ⟨tp_137, ot_137, rfl, Nq137, K137, G137_0, G137_1, G137_2, G137_3, G137_4, G137_5, G137_6, G137_7, G137_8, G137_9, G137_10, G137_11, G137_12, G137_13, G137_14, G137_15, G137_16, G137_17, G137_18, G137_19, G137_20, G137_21⟩ := q137
          have q142 := (Nat.le_trans (Nat.le_trans (Nat.le_trans q85 K76.1) K86.1) K88.1)
          have N137 := Fr.app N118 Nq137
          show Go p e below s _ _ _ T137 (mkF m 97 #[.val (.int y1), .val (.int y2), .val (.int q0), .val (.int q1), .val (.int q2), .val (.int (3 : Int32)), .val (.int (3 : Int32)), .val (.ref b73), .val (.int (1 : Int32)), .val (.int (0 : Int32)), .unset] [(.int (Int32.ofInt 1))])
          have htp : tp_137 < 3 ∧ ot_137 < 3 ∧ tp_137 ≠ ot_137 ∧ tp_137 ≠ 1 ∧ ot_137 ≠ 1 := by rcases G137_21 with ⟨z1, z2, -⟩ | ⟨z1, z2, -⟩ <;> omega
          refine wpop C X137 f0_97 rfl ?_
          refine wiload C X137 f0_98 rfl ?_
          refine wiconst C X137 f0_100 (2 : Int32) rfl ?_
          refine wicmp_lt C X137 f0_101 (fun q => absurd q (by decide : ¬ ((3 : Int32) < (2 : Int32)))) ?_
          intro _
          refine waload C X137 f0_104 rfl rfl ?_
          have q144 := (Nat.le_trans (Nat.le_trans (Nat.le_trans q87 K86.1) K88.1) K137.1)
          refine wvirtual C X137 (y := (⟨"com/example/hornwork/hornwork/FibonacciHeap", "removeLeast", "()I"⟩ : MethodName)) (z := (⟨"com/example/hornwork/hornwork/FibonacciHeap", "removeLeast", "()I"⟩ : MethodName)) (tw_61 hw) (tw_62 hw) (notFace_of_selects (args := #[]) (mvT C.2.1 (tw_64 hw))) (tw_64 hw) (tw_63 hw) (tw_65 hw) (tw_3 hw) (by decide) (rm9_D l Z a0 hw [] b73 ky_74 pa_74 ch_74 le_74 ri_74 de_74 mk_74 co_74 ro_74 rd_74 kri_74 kle_74 kch_74 kpa_74 kco_74 kde_74 kro_74 krd_74 (own_upd (own_upd (own_upd (own_upd (own_upd (own_upd (own_upd (own_upd (own_upd (own_upd (own_upd (fun _ => 0) 0 0) 1 1) 0 1) 1 0) 2 2) 1 2) 2 0) 0 2) 1 1) tp_137 tp_137) ot_137 ot_137) (own_upd (own_upd (own_upd (own_upd (own_upd (own_upd (own_upd (own_upd (own_upd (own_upd (own_upd (fun _ => 0) 0 0) 1 1) 1 0) 0 1) 2 2) 2 1) 0 2) 2 0) 1 1) tp_137 tp_137) ot_137 ot_137) (own_upd (own_upd (own_upd (own_upd (own_upd (fun _ => 0) 0 (-1)) 1 (-1)) 2 (-1)) tp_137 ot_137) 1 (-1)) (own_upd (own_upd (own_upd (own_upd (fun _ => 0) 0 (-1)) 1 (-1)) 2 (-1)) ot_137 tp_137) (own_upd (own_upd (own_upd (own_upd (fun _ => 0) 0 1) 1 1) 2 1) 1 0) (own_upd (own_upd (own_upd (own_upd (fun _ => 0) 0 0) 1 0) 2 0) tp_137 1) (own_upd (own_upd (fun _ => 0) 0 2) 1 0) (own_upd (own_upd (own_upd (own_upd (own_upd RD_74 0 2) 0 (-1)) 1 tp_137) 0 (-1)) 1 (-1)) tp_137 ot_137 T137.heap n0 q144 G137_0 G137_1 G137_2 G137_3 G137_4 G137_5 G137_6 G137_7 G137_8 G137_9 G137_10 G137_11 G137_12 G137_13 G137_14 G137_15 G137_16 G137_17 G137_19 G137_20 (Nat.le_trans Z0 sz73) (Nat.le_trans Z0 szG74_4) (Nat.le_trans Z0 szG74_3) (Nat.le_trans Z0 szG74_2) (Nat.le_trans Z0 szG74_1) (Nat.le_trans Z0 szG74_7) (Nat.le_trans Z0 szG74_5) (Nat.le_trans Z0 szG74_8) (Nat.le_trans Z0 szG74_9) (by omega) (by omega) (by omega) ((own_un (by omega)).trans (own_us _ _ _)) ((own_un (by omega)).trans (own_us _ _ _)) (own_us _ _ _) (own_us _ _ _) (G137_21.elim (fun z => by obtain ⟨rfl, rfl, -⟩ := z; first | rfl | exact (own_un (by decide)).trans (own_us _ _ _)) (fun z => by obtain ⟨rfl, rfl, -⟩ := z; first | rfl | exact (own_un (by decide)).trans ((own_un (by decide)).trans ((own_un (by decide)).trans (own_us _ _ _))))) ((own_un (by decide)).trans (own_us _ _ _)) ne78 G74_21 (Ne.symm G74_20) ne84 G74_34 ne83 (Ne.symm G74_22) (Ne.symm G74_35) (Ne.symm G74_40) G74_25 G74_38 G74_43 G74_26 G74_39 (Ne.symm G74_44) ne138 G74_47 (Ne.symm G74_54) ne140 (Ne.symm G74_24) (Ne.symm G74_37) (Ne.symm G74_42) ne82 G74_53 G74_52 (Ne.symm G74_19) G74_27 G74_28 ne79 G74_33 G74_32 G74_31) rfl (a := b73) G137_0 f0_106 (argsL := []) (rest := []) rfl rfl (lenOf pd_7 rfl) rfl (W := 0) (Nat.le_of_eq rfl) (by decide) (by decide) (by decide) (by decide) ?_
          intro v143 T143 L143 X143 q143
          obtain ⟨rfl, Nq143, K143, G143_0, G143_1, G143_2, G143_3, G143_4, G143_5, G143_6, G143_7, G143_8, G143_9, G143_10, G143_11, G143_12, G143_13, G143_14, G143_15, G143_16, G143_17, G143_18⟩ := q143
          have N143 := Fr.app N137 Nq143
          show Go p e below s _ _ _ T143 (mkF m 109 #[.val (.int y1), .val (.int y2), .val (.int q0), .val (.int q1), .val (.int q2), .val (.int (3 : Int32)), .val (.int (3 : Int32)), .val (.ref b73), .val (.int (1 : Int32)), .val (.int (0 : Int32)), .unset] [(.int (Int32.ofInt tp_137))])
          refine wpop C X143 f0_109 rfl ?_
          refine wiload C X143 f0_110 rfl ?_
          refine wiconst C X143 f0_112 (3 : Int32) rfl ?_
          refine wicmp_lt C X143 f0_113 (fun q => absurd q (by decide : ¬ ((3 : Int32) < (3 : Int32)))) ?_
          intro _
          refine waload C X143 f0_116 rfl rfl ?_
          refine wvirtual C X143 (y := (⟨"com/example/hornwork/hornwork/FibonacciHeap", "removeLeast", "()I"⟩ : MethodName)) (z := (⟨"com/example/hornwork/hornwork/FibonacciHeap", "removeLeast", "()I"⟩ : MethodName)) (tw_61 hw) (tw_62 hw) (notFace_of_selects (args := #[]) (mvT C.2.1 (tw_64 hw))) (tw_64 hw) (tw_63 hw) (tw_65 hw) (tw_3 hw) (by decide) (rm9_A l Z a0 hw [] b73 ky_74 pa_74 ch_74 le_74 ri_74 de_74 mk_74 co_74 ro_74 rd_74 kri_74 kch_74 kco_74 (own_upd (own_upd (own_upd (own_upd (own_upd (own_upd (own_upd (own_upd (own_upd (own_upd (own_upd (own_upd (own_upd (own_upd (own_upd (fun _ => 0) 0 0) 1 1) 0 1) 1 0) 2 2) 1 2) 2 0) 0 2) 1 1) tp_137 tp_137) ot_137 ot_137) tp_137 ot_137) ot_137 tp_137) ot_137 ot_137) tp_137 tp_137) (own_upd (own_upd (own_upd (own_upd (own_upd (own_upd (fun _ => 0) 0 (-1)) 1 (-1)) 2 (-1)) tp_137 ot_137) 1 (-1)) tp_137 (-1)) (own_upd (own_upd (own_upd (own_upd (own_upd (fun _ => 0) 0 1) 1 1) 2 1) 1 0) tp_137 0) ot_137 T143.heap n0 (Nat.le_trans q144 K143.1) G143_0 G143_1 G143_2 G143_3 G143_4 G143_5 G143_6 G143_7 G143_8 G143_9 G143_10 G143_11 G143_12 G143_14 G143_16 (Nat.le_trans Z0 sz73) (Nat.le_trans Z0 szG74_4) (Nat.le_trans Z0 szG74_2) (Nat.le_trans Z0 szG74_7) (by omega) (G137_21.elim (fun z => by obtain ⟨rfl, rfl, -⟩ := z; first | rfl | exact (own_un (by decide)).trans ((own_un (by decide)).trans ((own_un (by decide)).trans (own_us _ _ _)))) (fun z => by obtain ⟨rfl, rfl, -⟩ := z; first | rfl | exact (own_un (by decide)).trans ((own_un (by decide)).trans ((own_un (by decide)).trans ((own_un (by decide)).trans ((own_un (by decide)).trans (own_us _ _ _))))))) ((own_un (by omega)).trans (own_us _ _ _)) ne82 ne79 G74_31) rfl (a := b73) G143_0 f0_118 (argsL := []) (rest := []) rfl rfl (lenOf pd_7 rfl) rfl (W := 0) (Nat.le_of_eq rfl) (by decide) (by decide) (by decide) (by decide) ?_
          intro v145 T145 L145 X145 q145
          obtain ⟨rfl, Nq145, K145, G145_0, G145_1, G145_2, G145_3, G145_4, G145_5, G145_6, G145_7, G145_8, G145_9, G145_10, G145_11, G145_12, G145_13⟩ := q145
          have N145 := Fr.app N143 Nq145
          show Go p e below s _ _ _ T145 (mkF m 121 #[.val (.int y1), .val (.int y2), .val (.int q0), .val (.int q1), .val (.int q2), .val (.int (3 : Int32)), .val (.int (3 : Int32)), .val (.ref b73), .val (.int (1 : Int32)), .val (.int (0 : Int32)), .unset] [(.int (Int32.ofInt ot_137))])
          refine wpop C X145 f0_121 rfl ?_
          refine waload C X145 f0_122 rfl rfl ?_
          refine wvirtual C X145 (y := (⟨"com/example/hornwork/hornwork/FibonacciHeap", "isEmpty", "()Z"⟩ : MethodName)) (z := (⟨"com/example/hornwork/hornwork/FibonacciHeap", "isEmpty", "()Z"⟩ : MethodName)) (tw_39 hw) (tw_40 hw) (notFace_of_selects (args := #[]) (mvT C.2.1 (tw_42 hw))) (tw_42 hw) (tw_41 hw) (tw_43 hw) (tw_3 hw) (by decide) (rm4_0 l Z a0 hw [] b73 T145.heap n0 (Nat.le_trans (Nat.le_trans q144 K143.1) K145.1) G145_11) rfl (a := b73) G145_0 f0_124 (argsL := []) (rest := []) rfl rfl (lenOf pd_5 rfl) rfl (W := 0) (Nat.le_of_eq rfl) (by decide) (by decide) (by decide) (by decide) ?_
          intro v146 T146 L146 X146 q146
          obtain ⟨rfl, Nq146, eq146⟩ := q146
          have N146 := Fr.app N145 Nq146
          show Go p e below s _ _ _ T146 (mkF m 127 #[.val (.int y1), .val (.int y2), .val (.int q0), .val (.int q1), .val (.int q2), .val (.int (3 : Int32)), .val (.int (3 : Int32)), .val (.ref b73), .val (.int (1 : Int32)), .val (.int (0 : Int32)), .unset] [(.int (1 : Int32))])
          refine wistore C X146 f0_127 #[.val (.int y1), .val (.int y2), .val (.int q0), .val (.int q1), .val (.int q2), .val (.int (3 : Int32)), .val (.int (3 : Int32)), .val (.ref b73), .val (.int (1 : Int32)), .val (.int (0 : Int32)), .val (.int (1 : Int32))] rfl ?_
          refine wiload C X146 f0_129 rfl ?_
          refine wif_eq C X146 f0_131 (fun q => absurd q (by decide : ¬ ((1 : Int32) = (0 : Int32)))) ?_
          intro _
          refine wiload C X146 f0_134 rfl ?_
          refine wiload C X146 f0_136 rfl ?_
          refine wif_ne C X146 f0_138 (fun q => absurd q (by decide : ¬ ((3 : Int32) = (0 : Int32)))) ?_
          intro _
          refine wiconst C X146 f0_145 (0 : Int32) rfl ?_
          refine wicmp_ne C X146 f0_146 ?_ (fun q => absurd (by decide : ((0 : Int32) = (0 : Int32))) q)
          intro _
          refine wiload C X146 f0_149 rfl ?_
          refine wiload C X146 f0_151 rfl ?_
          refine wiload C X146 f0_153 rfl ?_
          refine wicmp_ne C X146 f0_155 ?_ (fun q => absurd (by decide : ((3 : Int32) = (3 : Int32))) q)
          intro _
          refine wiconst C X146 f0_158 (1 : Int32) rfl ?_
          refine wgoto C X146 f0_159 ?_
          refine wicmp_ne C X146 f0_163 ?_ (fun q => absurd (by decide : ((1 : Int32) = (1 : Int32))) q)
          intro _
          refine wiconst C X146 f0_166 (1 : Int32) rfl ?_
          refine wgoto C X146 f0_167 ?_
          refine wiretN C X146 (t := .boolean) (by simp) f0_171 rfl (1 : Int32) (by decide) (by decide) (by decide) ?_
          rw [eq146]
          exact ⟨rfl, N146⟩
    · refine wiload C X86 f0_64 rfl ?_
      refine wiconst C X86 f0_66 (3 : Int32) rfl ?_
      refine wicmp_lt C X86 f0_67 (fun q => absurd q (by decide : ¬ ((3 : Int32) < (3 : Int32)))) ?_
      intro _
      refine waload C X86 f0_70 rfl rfl ?_
      refine wiconst C X86 f0_72 (2 : Int32) rfl ?_
      refine own_foldI (z := (Int32.ofInt 2)) (by decide) ?_
      refine wiload C X86 f0_73 rfl ?_
      refine wi2d C X86 f0_75 ?_
      refine wvirtual C X86 (y := (⟨"com/example/hornwork/hornwork/FibonacciHeap", "insert", "(ID)V"⟩ : MethodName)) (z := (⟨"com/example/hornwork/hornwork/FibonacciHeap", "insert", "(ID)V"⟩ : MethodName)) (tw_44 hw) (tw_45 hw) (notFace_of_selects (args := #[]) (mvT C.2.1 (tw_47 hw))) (tw_47 hw) (tw_46 hw) (tw_48 hw) (tw_3 hw) (by decide) (rm5_1 l Z a0 hw [] b73 2 (FP.i2d q2) ky_74 pa_74 ch_74 le_74 ri_74 de_74 mk_74 co_74 ro_74 rd_74 kky_74 kpa_74 kch_74 kde_74 kmk_74 kco_74 kri_74 kle_74 (own_updD (own_updD (fun _ => 0) 0 (FP.i2d q0)) 1 (FP.i2d q1)) (own_upd (own_upd (fun _ => 0) 0 (-1)) 1 (-1)) (own_upd (own_upd (fun _ => 0) 0 (-1)) 1 (-1)) (own_upd (own_upd (fun _ => 0) 0 0) 1 0) (own_upd (own_upd (fun _ => 0) 0 0) 1 0) (own_upd (own_upd (fun _ => 0) 0 1) 1 1) (own_upd (own_upd (own_upd (own_upd (fun _ => 0) 0 0) 1 1) 0 1) 1 0) (own_upd (own_upd (own_upd (own_upd (fun _ => 0) 0 0) 1 1) 1 0) 0 1) (own_upd (own_upd (fun _ => 0) 0 q0.toInt) 1 q1.toInt) q2.toInt 0 1 T86.heap n0 (Nat.le_trans q87 K86.1) G86_0 G86_1 G86_2 G86_3 G86_4 G86_5 G86_6 G86_7 G86_8 G86_9 G86_10 G86_11 G86_12 G86_13 G86_14 G86_15 G86_16 G86_17 G86_18 G86_19 (Nat.le_trans Z0 sz73) (Nat.le_trans Z0 szG74_0) (Nat.le_trans Z0 szG74_1) (Nat.le_trans Z0 szG74_2) (Nat.le_trans Z0 szG74_5) (Nat.le_trans Z0 szG74_6) (Nat.le_trans Z0 szG74_7) (Nat.le_trans Z0 szG74_4) (Nat.le_trans Z0 szG74_3) (by omega) (by omega) (by omega) (by omega) (own_hK (own_hK own_hK0 (own_i2d q0)) (own_i2d q1)) (own_i2d q2) ((own_un (by decide)).trans (own_us _ _ _)) ne77 G74_10 ne78 (Ne.symm G74_11) (Ne.symm G74_19) ne79 (Ne.symm G74_14) (Ne.symm G74_22) G74_29 ne80 G74_15 (Ne.symm G74_23) G74_30 G74_45 ne81 (Ne.symm G74_16) (Ne.symm G74_24) G74_31 (Ne.symm G74_46) (Ne.symm G74_49) ne82 G74_13 G74_21 G74_28 (Ne.symm G74_40) (Ne.symm G74_41) (Ne.symm G74_42) G74_12 (Ne.symm G74_20) G74_27 (Ne.symm G74_35) G74_36 (Ne.symm G74_37) ne83 G74_34 ne84) rfl (a := b73) G86_0 f0_76 (argsL := [(.int (Int32.ofInt 2)), (.double (FP.i2d q2))]) (rest := []) rfl rfl (lenOf pd_6 rfl) rfl (W := 0) (Nat.le_of_eq rfl) (by decide) (by decide) (by decide) (by decide) ?_
      intro v147 T147 L147 X147 q147
      obtain ⟨g0_147, rfl, Nq147, K147, G147_0, G147_1, G147_2, G147_3, G147_4, G147_5, G147_6, G147_7, G147_8, G147_9, G147_10, G147_11, G147_12, G147_13, G147_14, G147_15, G147_16, G147_17, G147_18, G147_19, G147_20⟩ := q147
      have N147 := Fr.app N86 Nq147
      show Go p e below s _ _ _ T147 (mkF m 79 #[.val (.int y1), .val (.int y2), .val (.int q0), .val (.int q1), .val (.int q2), .val (.int (3 : Int32)), .val (.int mm), .val (.ref b73), .val (.int (1 : Int32)), .unset, .unset] [])
      rcases G147_20 with ⟨rfl, hb76⟩ | ⟨rfl, hb76⟩
      · refine waload C X147 f0_79 rfl rfl ?_
        refine wvirtual C X147 (y := (⟨"com/example/hornwork/hornwork/FibonacciHeap", "isEmpty", "()Z"⟩ : MethodName)) (z := (⟨"com/example/hornwork/hornwork/FibonacciHeap", "isEmpty", "()Z"⟩ : MethodName)) (tw_39 hw) (tw_40 hw) (notFace_of_selects (args := #[]) (mvT C.2.1 (tw_42 hw))) (tw_42 hw) (tw_41 hw) (tw_43 hw) (tw_3 hw) (by decide) (rm4_1 l Z a0 hw [] b73 2 T147.heap n0 (Nat.le_trans (Nat.le_trans q87 K86.1) K147.1) G147_11 (by omega)) rfl (a := b73) G147_0 f0_81 (argsL := []) (rest := []) rfl rfl (lenOf pd_5 rfl) rfl (W := 0) (Nat.le_of_eq rfl) (by decide) (by decide) (by decide) (by decide) ?_
        intro v148 T148 L148 X148 q148
        obtain ⟨rfl, Nq148, eq148⟩ := q148
        have N148 := Fr.app N147 Nq148
        show Go p e below s _ _ _ T148 (mkF m 84 #[.val (.int y1), .val (.int y2), .val (.int q0), .val (.int q1), .val (.int q2), .val (.int (3 : Int32)), .val (.int mm), .val (.ref b73), .val (.int (1 : Int32)), .unset, .unset] [(.int (0 : Int32))])
        refine wistore C X148 f0_84 #[.val (.int y1), .val (.int y2), .val (.int q0), .val (.int q1), .val (.int q2), .val (.int (3 : Int32)), .val (.int mm), .val (.ref b73), .val (.int (1 : Int32)), .val (.int (0 : Int32)), .unset] rfl ?_
        rcases own_s3 hmm with rfl | rfl | rfl | rfl
        · refine wiload C X148 f0_86 rfl ?_
          refine wiconst C X148 f0_88 (1 : Int32) rfl ?_
          refine wicmp_lt C X148 f0_89 ?_ (fun q => absurd (by decide : ((0 : Int32) < (1 : Int32))) q)
          intro _
          refine wiload C X148 f0_98 rfl ?_
          refine wiconst C X148 f0_100 (2 : Int32) rfl ?_
          refine wicmp_lt C X148 f0_101 ?_ (fun q => absurd (by decide : ((0 : Int32) < (2 : Int32))) q)
          intro _
          refine wiload C X148 f0_110 rfl ?_
          refine wiconst C X148 f0_112 (3 : Int32) rfl ?_
          refine wicmp_lt C X148 f0_113 ?_ (fun q => absurd (by decide : ((0 : Int32) < (3 : Int32))) q)
          intro _
          refine waload C X148 f0_122 rfl rfl ?_
          refine wvirtual C X148 (y := (⟨"com/example/hornwork/hornwork/FibonacciHeap", "isEmpty", "()Z"⟩ : MethodName)) (z := (⟨"com/example/hornwork/hornwork/FibonacciHeap", "isEmpty", "()Z"⟩ : MethodName)) (tw_39 hw) (tw_40 hw) (notFace_of_selects (args := #[]) (mvT C.2.1 (tw_42 hw))) (tw_42 hw) (tw_41 hw) (tw_43 hw) (tw_3 hw) (by decide) (rm4_1 l Z a0 hw [] b73 2 T147.heap n0 (Nat.le_trans (Nat.le_trans q87 K86.1) K147.1) G147_11 (by omega)) eq148 (a := b73) G147_0 f0_124 (argsL := []) (rest := []) rfl rfl (lenOf pd_5 rfl) rfl (W := 0) (Nat.le_of_eq rfl) (by decide) (by decide) (by decide) (by decide) ?_
          intro v149 T149 L149 X149 q149
          obtain ⟨rfl, Nq149, eq149⟩ := q149
          have N149 := Fr.app N148 Nq149
          show Go p e below s _ _ _ T149 (mkF m 127 #[.val (.int y1), .val (.int y2), .val (.int q0), .val (.int q1), .val (.int q2), .val (.int (3 : Int32)), .val (.int (0 : Int32)), .val (.ref b73), .val (.int (1 : Int32)), .val (.int (0 : Int32)), .unset] [(.int (0 : Int32))])
          refine wistore C X149 f0_127 #[.val (.int y1), .val (.int y2), .val (.int q0), .val (.int q1), .val (.int q2), .val (.int (3 : Int32)), .val (.int (0 : Int32)), .val (.ref b73), .val (.int (1 : Int32)), .val (.int (0 : Int32)), .val (.int (0 : Int32))] rfl ?_
          refine wiload C X149 f0_129 rfl ?_
          refine wif_eq C X149 f0_131 (fun q => absurd q (by decide : ¬ ((1 : Int32) = (0 : Int32)))) ?_
          intro _
          refine wiload C X149 f0_134 rfl ?_
          refine wiload C X149 f0_136 rfl ?_
          refine wif_ne C X149 f0_138 (fun q => absurd q (by decide : ¬ ((3 : Int32) = (0 : Int32)))) ?_
          intro _
          refine wiconst C X149 f0_145 (0 : Int32) rfl ?_
          refine wicmp_ne C X149 f0_146 ?_ (fun q => absurd (by decide : ((0 : Int32) = (0 : Int32))) q)
          intro _
          refine wiload C X149 f0_149 rfl ?_
          refine wiload C X149 f0_151 rfl ?_
          refine wiload C X149 f0_153 rfl ?_
          refine wicmp_ne C X149 f0_155 (fun q => absurd q (by decide : ¬ ((0 : Int32) = (3 : Int32)))) ?_
          intro _
          refine wiconst C X149 f0_162 (0 : Int32) rfl ?_
          refine wicmp_ne C X149 f0_163 ?_ (fun q => absurd (by decide : ((0 : Int32) = (0 : Int32))) q)
          intro _
          refine wiconst C X149 f0_166 (1 : Int32) rfl ?_
          refine wgoto C X149 f0_167 ?_
          refine wiretN C X149 (t := .boolean) (by simp) f0_171 rfl (1 : Int32) (by decide) (by decide) (by decide) ?_
          rw [eq149]
          exact ⟨rfl, N149⟩
        · refine wiload C X148 f0_86 rfl ?_
          refine wiconst C X148 f0_88 (1 : Int32) rfl ?_
          refine wicmp_lt C X148 f0_89 (fun q => absurd q (by decide : ¬ ((1 : Int32) < (1 : Int32)))) ?_
          intro _
          refine waload C X148 f0_92 rfl rfl ?_
          have ne151 : b73 ≠ ro_74 := (Nat.ne_of_lt (Nat.lt_of_lt_of_le A73.lt G74_8))
          have q152 := (((G74_75.keep K76 (ninS (Ne.symm G74_17) (ninS (Ne.symm G74_25) (ninS (Ne.symm G74_32) (ninS (Ne.symm G74_47) (ninS (Ne.symm G74_50) (ninS (Ne.symm G74_52) (ninS (Ne.symm G74_43) (ninS (Ne.symm G74_38) (ninS (Ne.symm ne151) nin0)))))))))).keep K86 (ninS (Ne.symm G74_17) (ninS (Ne.symm G74_25) (ninS (Ne.symm G74_32) (ninS (Ne.symm G74_47) (ninS (Ne.symm G74_50) (ninS (Ne.symm G74_52) (ninS (Ne.symm G74_43) (ninS (Ne.symm G74_38) (ninS (Ne.symm ne151) nin0)))))))))).keep K147 (ninS (Ne.symm G74_17) (ninS (Ne.symm G74_25) (ninS (Ne.symm G74_32) (ninS (Ne.symm G74_47) (ninS (Ne.symm G74_50) (ninS (Ne.symm G74_52) (ninS (Ne.symm G74_43) (ninS (Ne.symm G74_38) (ninS (Ne.symm ne151) nin0))))))))))
          have ne153 : b73 ≠ rd_74 := (Nat.ne_of_lt (Nat.lt_of_lt_of_le A73.lt G74_9))
          have q154 := (((G74_76.keep K76 (ninS (Ne.symm G74_18) (ninS (Ne.symm G74_26) (ninS (Ne.symm G74_33) (ninS (Ne.symm G74_48) (ninS (Ne.symm G74_51) (ninS (Ne.symm G74_53) (ninS (Ne.symm G74_44) (ninS (Ne.symm G74_39) (ninS (Ne.symm ne153) nin0)))))))))).keep K86 (ninS (Ne.symm G74_18) (ninS (Ne.symm G74_26) (ninS (Ne.symm G74_33) (ninS (Ne.symm G74_48) (ninS (Ne.symm G74_51) (ninS (Ne.symm G74_53) (ninS (Ne.symm G74_44) (ninS (Ne.symm G74_39) (ninS (Ne.symm ne153) nin0)))))))))).keep K147 (ninS (Ne.symm G74_18) (ninS (Ne.symm G74_26) (ninS (Ne.symm G74_33) (ninS (Ne.symm G74_48) (ninS (Ne.symm G74_51) (ninS (Ne.symm G74_53) (ninS (Ne.symm G74_44) (ninS (Ne.symm G74_39) (ninS (Ne.symm ne153) nin0))))))))))
          refine wvirtual C X148 (y := (⟨"com/example/hornwork/hornwork/FibonacciHeap", "removeLeast", "()I"⟩ : MethodName)) (z := (⟨"com/example/hornwork/hornwork/FibonacciHeap", "removeLeast", "()I"⟩ : MethodName)) (tw_61 hw) (tw_62 hw) (notFace_of_selects (args := #[]) (mvT C.2.1 (tw_64 hw))) (tw_64 hw) (tw_63 hw) (tw_65 hw) (tw_3 hw) (by decide) (rm9_C l Z a0 hw [] b73 ky_74 pa_74 ch_74 le_74 ri_74 de_74 mk_74 co_74 ro_74 rd_74 kri_74 kle_74 kch_74 kpa_74 kco_74 kde_74 kmk_74 kro_74 krd_74 kky_74 (own_upd (own_upd (own_upd (own_upd (own_upd (own_upd (own_upd (fun _ => 0) 0 0) 1 1) 0 1) 1 0) 2 2) 0 2) 2 1) (own_upd (own_upd (own_upd (own_upd (own_upd (own_upd (own_upd (fun _ => 0) 0 0) 1 1) 1 0) 0 1) 2 2) 2 0) 1 2) (own_upd (own_upd (own_upd (fun _ => 0) 0 (-1)) 1 (-1)) 2 (-1)) (own_upd (own_upd (own_upd (fun _ => 0) 0 (-1)) 1 (-1)) 2 (-1)) (own_upd (own_upd (own_upd (fun _ => 0) 0 1) 1 1) 2 1) (own_upd (own_upd (own_upd (fun _ => 0) 0 0) 1 0) 2 0) (own_upd (own_upd (own_upd (fun _ => 0) 0 0) 1 0) 2 0) (fun _ => 0) RD_74 (own_updD (own_updD (own_updD (fun _ => 0) 0 (FP.i2d q0)) 1 (FP.i2d q1)) 2 (FP.i2d q2)) 2 1 0 (own_upd (own_upd (own_upd (fun _ => 0) 0 q0.toInt) 1 q1.toInt) 2 q2.toInt) T147.heap n0 (Nat.le_trans (Nat.le_trans q87 K86.1) K147.1) G147_0 G147_1 G147_2 G147_3 G147_4 G147_5 G147_6 G147_7 G147_8 G147_9 G147_10 G147_11 G147_18 G147_19 G147_14 G147_13 G147_17 G147_15 G147_16 q152 q154 G147_12 (Nat.le_trans Z0 sz73) (Nat.le_trans Z0 szG74_4) (Nat.le_trans Z0 szG74_3) (Nat.le_trans Z0 szG74_2) (Nat.le_trans Z0 szG74_1) (Nat.le_trans Z0 szG74_7) (Nat.le_trans Z0 szG74_5) (Nat.le_trans Z0 szG74_6) (Nat.le_trans Z0 szG74_8) (Nat.le_trans Z0 szG74_9) (by omega) (by omega) (by omega) (by omega) (by omega) (by omega) (own_hK (own_hK (own_hK own_hK0 (own_i2d q0)) (own_i2d q1)) (own_i2d q2)) (own_us _ _ _) ((own_un (by decide)).trans (own_us _ _ _)) ((own_un (by decide)).trans ((own_un (by decide)).trans (own_us _ _ _))) (own_us _ _ _) ((own_un (by decide)).trans ((own_un (by decide)).trans ((own_un (by decide)).trans (own_us _ _ _)))) ((own_un (by decide)).trans (own_us _ _ _)) ((own_un (by decide)).trans ((own_un (by decide)).trans ((own_un (by decide)).trans (own_us _ _ _)))) ((own_un (by decide)).trans (own_us _ _ _)) ((own_un (by decide)).trans ((own_un (by decide)).trans (own_us _ _ _))) (G74_77 0 (by decide)) (G74_77 1 (by decide)) ne84 G74_34 ne83 G74_27 G74_28 (Ne.symm G74_20) G74_21 (Ne.symm G74_35) (Ne.symm G74_40) G74_36 (Ne.symm G74_41) G74_38 G74_43 G74_39 (Ne.symm G74_44) G74_12 G74_13 ne151 G74_47 (Ne.symm G74_54) ne153 G74_48 G74_17 G74_18 G74_32 G74_33 G74_25 G74_26 G74_50 G74_51 ne79 (Ne.symm G74_19) ne78 G74_29 (Ne.symm G74_22) ne80 G74_30 (Ne.symm G74_23) G74_45 ne81 (Ne.symm G74_37) (Ne.symm G74_42) ne82 G74_53 G74_52 (Ne.symm G74_49) (Ne.symm G74_46) (Ne.symm G74_24) G74_31) eq148 (a := b73) G147_0 f0_94 (argsL := []) (rest := []) rfl rfl (lenOf pd_7 rfl) rfl (W := 0) (Nat.le_of_eq rfl) (by decide) (by decide) (by decide) (by decide) ?_
          intro v150 T150 L150 X150 q150
          obtain ⟨tp_150, ot_150, rfl, Nq150, K150, G150_0, G150_1, G150_2, G150_3, G150_4, G150_5, G150_6, G150_7, G150_8, G150_9, G150_10, G150_11, G150_12, G150_13, G150_14, G150_15, G150_16, G150_17, G150_18, G150_19, G150_20, G150_21⟩ := q150
          have q155 := (Nat.le_trans (Nat.le_trans (Nat.le_trans q85 K76.1) K86.1) K147.1)
          have N150 := Fr.app N148 Nq150
          show Go p e below s _ _ _ T150 (mkF m 97 #[.val (.int y1), .val (.int y2), .val (.int q0), .val (.int q1), .val (.int q2), .val (.int (3 : Int32)), .val (.int (1 : Int32)), .val (.ref b73), .val (.int (1 : Int32)), .val (.int (0 : Int32)), .unset] [(.int (Int32.ofInt 2))])
          have htp : tp_150 < 3 ∧ ot_150 < 3 ∧ tp_150 ≠ ot_150 ∧ tp_150 ≠ 2 ∧ ot_150 ≠ 2 := by rcases G150_21 with ⟨z1, z2, -⟩ | ⟨z1, z2, -⟩ <;> omega
          refine wpop C X150 f0_97 rfl ?_
          refine wiload C X150 f0_98 rfl ?_
          refine wiconst C X150 f0_100 (2 : Int32) rfl ?_
          refine wicmp_lt C X150 f0_101 ?_ (fun q => absurd (by decide : ((1 : Int32) < (2 : Int32))) q)
          intro _
          refine wiload C X150 f0_110 rfl ?_
          refine wiconst C X150 f0_112 (3 : Int32) rfl ?_
          refine wicmp_lt C X150 f0_113 ?_ (fun q => absurd (by decide : ((1 : Int32) < (3 : Int32))) q)
          intro _
          refine waload C X150 f0_122 rfl rfl ?_
          have q157 := (Nat.le_trans (Nat.le_trans (Nat.le_trans q87 K86.1) K147.1) K150.1)
          refine wvirtual C X150 (y := (⟨"com/example/hornwork/hornwork/FibonacciHeap", "isEmpty", "()Z"⟩ : MethodName)) (z := (⟨"com/example/hornwork/hornwork/FibonacciHeap", "isEmpty", "()Z"⟩ : MethodName)) (tw_39 hw) (tw_40 hw) (notFace_of_selects (args := #[]) (mvT C.2.1 (tw_42 hw))) (tw_42 hw) (tw_41 hw) (tw_43 hw) (tw_3 hw) (by decide) (rm4_1 l Z a0 hw [] b73 tp_150 T150.heap n0 q157 G150_11 (by omega)) rfl (a := b73) G150_0 f0_124 (argsL := []) (rest := []) rfl rfl (lenOf pd_5 rfl) rfl (W := 0) (Nat.le_of_eq rfl) (by decide) (by decide) (by decide) (by decide) ?_
          intro v156 T156 L156 X156 q156
          obtain ⟨rfl, Nq156, eq156⟩ := q156
          have N156 := Fr.app N150 Nq156
          show Go p e below s _ _ _ T156 (mkF m 127 #[.val (.int y1), .val (.int y2), .val (.int q0), .val (.int q1), .val (.int q2), .val (.int (3 : Int32)), .val (.int (1 : Int32)), .val (.ref b73), .val (.int (1 : Int32)), .val (.int (0 : Int32)), .unset] [(.int (0 : Int32))])
          refine wistore C X156 f0_127 #[.val (.int y1), .val (.int y2), .val (.int q0), .val (.int q1), .val (.int q2), .val (.int (3 : Int32)), .val (.int (1 : Int32)), .val (.ref b73), .val (.int (1 : Int32)), .val (.int (0 : Int32)), .val (.int (0 : Int32))] rfl ?_
          refine wiload C X156 f0_129 rfl ?_
          refine wif_eq C X156 f0_131 (fun q => absurd q (by decide : ¬ ((1 : Int32) = (0 : Int32)))) ?_
          intro _
          refine wiload C X156 f0_134 rfl ?_
          refine wiload C X156 f0_136 rfl ?_
          refine wif_ne C X156 f0_138 (fun q => absurd q (by decide : ¬ ((3 : Int32) = (0 : Int32)))) ?_
          intro _
          refine wiconst C X156 f0_145 (0 : Int32) rfl ?_
          refine wicmp_ne C X156 f0_146 ?_ (fun q => absurd (by decide : ((0 : Int32) = (0 : Int32))) q)
          intro _
          refine wiload C X156 f0_149 rfl ?_
          refine wiload C X156 f0_151 rfl ?_
          refine wiload C X156 f0_153 rfl ?_
          refine wicmp_ne C X156 f0_155 (fun q => absurd q (by decide : ¬ ((1 : Int32) = (3 : Int32)))) ?_
          intro _
          refine wiconst C X156 f0_162 (0 : Int32) rfl ?_
          refine wicmp_ne C X156 f0_163 ?_ (fun q => absurd (by decide : ((0 : Int32) = (0 : Int32))) q)
          intro _
          refine wiconst C X156 f0_166 (1 : Int32) rfl ?_
          refine wgoto C X156 f0_167 ?_
          refine wiretN C X156 (t := .boolean) (by simp) f0_171 rfl (1 : Int32) (by decide) (by decide) (by decide) ?_
          rw [eq156]
          exact ⟨rfl, N156⟩
        · refine wiload C X148 f0_86 rfl ?_
          refine wiconst C X148 f0_88 (1 : Int32) rfl ?_
          refine wicmp_lt C X148 f0_89 (fun q => absurd q (by decide : ¬ ((2 : Int32) < (1 : Int32)))) ?_
          intro _
          refine waload C X148 f0_92 rfl rfl ?_
          have ne159 : b73 ≠ ro_74 := (Nat.ne_of_lt (Nat.lt_of_lt_of_le A73.lt G74_8))
          have q160 := (((G74_75.keep K76 (ninS (Ne.symm G74_17) (ninS (Ne.symm G74_25) (ninS (Ne.symm G74_32) (ninS (Ne.symm G74_47) (ninS (Ne.symm G74_50) (ninS (Ne.symm G74_52) (ninS (Ne.symm G74_43) (ninS (Ne.symm G74_38) (ninS (Ne.symm ne159) nin0)))))))))).keep K86 (ninS (Ne.symm G74_17) (ninS (Ne.symm G74_25) (ninS (Ne.symm G74_32) (ninS (Ne.symm G74_47) (ninS (Ne.symm G74_50) (ninS (Ne.symm G74_52) (ninS (Ne.symm G74_43) (ninS (Ne.symm G74_38) (ninS (Ne.symm ne159) nin0)))))))))).keep K147 (ninS (Ne.symm G74_17) (ninS (Ne.symm G74_25) (ninS (Ne.symm G74_32) (ninS (Ne.symm G74_47) (ninS (Ne.symm G74_50) (ninS (Ne.symm G74_52) (ninS (Ne.symm G74_43) (ninS (Ne.symm G74_38) (ninS (Ne.symm ne159) nin0))))))))))
          have ne161 : b73 ≠ rd_74 := (Nat.ne_of_lt (Nat.lt_of_lt_of_le A73.lt G74_9))
          have q162 := (((G74_76.keep K76 (ninS (Ne.symm G74_18) (ninS (Ne.symm G74_26) (ninS (Ne.symm G74_33) (ninS (Ne.symm G74_48) (ninS (Ne.symm G74_51) (ninS (Ne.symm G74_53) (ninS (Ne.symm G74_44) (ninS (Ne.symm G74_39) (ninS (Ne.symm ne161) nin0)))))))))).keep K86 (ninS (Ne.symm G74_18) (ninS (Ne.symm G74_26) (ninS (Ne.symm G74_33) (ninS (Ne.symm G74_48) (ninS (Ne.symm G74_51) (ninS (Ne.symm G74_53) (ninS (Ne.symm G74_44) (ninS (Ne.symm G74_39) (ninS (Ne.symm ne161) nin0)))))))))).keep K147 (ninS (Ne.symm G74_18) (ninS (Ne.symm G74_26) (ninS (Ne.symm G74_33) (ninS (Ne.symm G74_48) (ninS (Ne.symm G74_51) (ninS (Ne.symm G74_53) (ninS (Ne.symm G74_44) (ninS (Ne.symm G74_39) (ninS (Ne.symm ne161) nin0))))))))))
          refine wvirtual C X148 (y := (⟨"com/example/hornwork/hornwork/FibonacciHeap", "removeLeast", "()I"⟩ : MethodName)) (z := (⟨"com/example/hornwork/hornwork/FibonacciHeap", "removeLeast", "()I"⟩ : MethodName)) (tw_61 hw) (tw_62 hw) (notFace_of_selects (args := #[]) (mvT C.2.1 (tw_64 hw))) (tw_64 hw) (tw_63 hw) (tw_65 hw) (tw_3 hw) (by decide) (rm9_C l Z a0 hw [] b73 ky_74 pa_74 ch_74 le_74 ri_74 de_74 mk_74 co_74 ro_74 rd_74 kri_74 kle_74 kch_74 kpa_74 kco_74 kde_74 kmk_74 kro_74 krd_74 kky_74 (own_upd (own_upd (own_upd (own_upd (own_upd (own_upd (own_upd (fun _ => 0) 0 0) 1 1) 0 1) 1 0) 2 2) 0 2) 2 1) (own_upd (own_upd (own_upd (own_upd (own_upd (own_upd (own_upd (fun _ => 0) 0 0) 1 1) 1 0) 0 1) 2 2) 2 0) 1 2) (own_upd (own_upd (own_upd (fun _ => 0) 0 (-1)) 1 (-1)) 2 (-1)) (own_upd (own_upd (own_upd (fun _ => 0) 0 (-1)) 1 (-1)) 2 (-1)) (own_upd (own_upd (own_upd (fun _ => 0) 0 1) 1 1) 2 1) (own_upd (own_upd (own_upd (fun _ => 0) 0 0) 1 0) 2 0) (own_upd (own_upd (own_upd (fun _ => 0) 0 0) 1 0) 2 0) (fun _ => 0) RD_74 (own_updD (own_updD (own_updD (fun _ => 0) 0 (FP.i2d q0)) 1 (FP.i2d q1)) 2 (FP.i2d q2)) 2 1 0 (own_upd (own_upd (own_upd (fun _ => 0) 0 q0.toInt) 1 q1.toInt) 2 q2.toInt) T147.heap n0 (Nat.le_trans (Nat.le_trans q87 K86.1) K147.1) G147_0 G147_1 G147_2 G147_3 G147_4 G147_5 G147_6 G147_7 G147_8 G147_9 G147_10 G147_11 G147_18 G147_19 G147_14 G147_13 G147_17 G147_15 G147_16 q160 q162 G147_12 (Nat.le_trans Z0 sz73) (Nat.le_trans Z0 szG74_4) (Nat.le_trans Z0 szG74_3) (Nat.le_trans Z0 szG74_2) (Nat.le_trans Z0 szG74_1) (Nat.le_trans Z0 szG74_7) (Nat.le_trans Z0 szG74_5) (Nat.le_trans Z0 szG74_6) (Nat.le_trans Z0 szG74_8) (Nat.le_trans Z0 szG74_9) (by omega) (by omega) (by omega) (by omega) (by omega) (by omega) (own_hK (own_hK (own_hK own_hK0 (own_i2d q0)) (own_i2d q1)) (own_i2d q2)) (own_us _ _ _) ((own_un (by decide)).trans (own_us _ _ _)) ((own_un (by decide)).trans ((own_un (by decide)).trans (own_us _ _ _))) (own_us _ _ _) ((own_un (by decide)).trans ((own_un (by decide)).trans ((own_un (by decide)).trans (own_us _ _ _)))) ((own_un (by decide)).trans (own_us _ _ _)) ((own_un (by decide)).trans ((own_un (by decide)).trans ((own_un (by decide)).trans (own_us _ _ _)))) ((own_un (by decide)).trans (own_us _ _ _)) ((own_un (by decide)).trans ((own_un (by decide)).trans (own_us _ _ _))) (G74_77 0 (by decide)) (G74_77 1 (by decide)) ne84 G74_34 ne83 G74_27 G74_28 (Ne.symm G74_20) G74_21 (Ne.symm G74_35) (Ne.symm G74_40) G74_36 (Ne.symm G74_41) G74_38 G74_43 G74_39 (Ne.symm G74_44) G74_12 G74_13 ne159 G74_47 (Ne.symm G74_54) ne161 G74_48 G74_17 G74_18 G74_32 G74_33 G74_25 G74_26 G74_50 G74_51 ne79 (Ne.symm G74_19) ne78 G74_29 (Ne.symm G74_22) ne80 G74_30 (Ne.symm G74_23) G74_45 ne81 (Ne.symm G74_37) (Ne.symm G74_42) ne82 G74_53 G74_52 (Ne.symm G74_49) (Ne.symm G74_46) (Ne.symm G74_24) G74_31) eq148 (a := b73) G147_0 f0_94 (argsL := []) (rest := []) rfl rfl (lenOf pd_7 rfl) rfl (W := 0) (Nat.le_of_eq rfl) (by decide) (by decide) (by decide) (by decide) ?_
          intro v158 T158 L158 X158 q158
          obtain ⟨tp_158, ot_158, rfl, Nq158, K158, G158_0, G158_1, G158_2, G158_3, G158_4, G158_5, G158_6, G158_7, G158_8, G158_9, G158_10, G158_11, G158_12, G158_13, G158_14, G158_15, G158_16, G158_17, G158_18, G158_19, G158_20, G158_21⟩ := q158
          have q163 := (Nat.le_trans (Nat.le_trans (Nat.le_trans q85 K76.1) K86.1) K147.1)
          have N158 := Fr.app N148 Nq158
          show Go p e below s _ _ _ T158 (mkF m 97 #[.val (.int y1), .val (.int y2), .val (.int q0), .val (.int q1), .val (.int q2), .val (.int (3 : Int32)), .val (.int (2 : Int32)), .val (.ref b73), .val (.int (1 : Int32)), .val (.int (0 : Int32)), .unset] [(.int (Int32.ofInt 2))])
          have htp : tp_158 < 3 ∧ ot_158 < 3 ∧ tp_158 ≠ ot_158 ∧ tp_158 ≠ 2 ∧ ot_158 ≠ 2 := by rcases G158_21 with ⟨z1, z2, -⟩ | ⟨z1, z2, -⟩ <;> omega
          refine wpop C X158 f0_97 rfl ?_
          refine wiload C X158 f0_98 rfl ?_
          refine wiconst C X158 f0_100 (2 : Int32) rfl ?_
          refine wicmp_lt C X158 f0_101 (fun q => absurd q (by decide : ¬ ((2 : Int32) < (2 : Int32)))) ?_
          intro _
          refine waload C X158 f0_104 rfl rfl ?_
          have q165 := (Nat.le_trans (Nat.le_trans (Nat.le_trans q87 K86.1) K147.1) K158.1)
          refine wvirtual C X158 (y := (⟨"com/example/hornwork/hornwork/FibonacciHeap", "removeLeast", "()I"⟩ : MethodName)) (z := (⟨"com/example/hornwork/hornwork/FibonacciHeap", "removeLeast", "()I"⟩ : MethodName)) (tw_61 hw) (tw_62 hw) (notFace_of_selects (args := #[]) (mvT C.2.1 (tw_64 hw))) (tw_64 hw) (tw_63 hw) (tw_65 hw) (tw_3 hw) (by decide) (rm9_D l Z a0 hw [] b73 ky_74 pa_74 ch_74 le_74 ri_74 de_74 mk_74 co_74 ro_74 rd_74 kri_74 kle_74 kch_74 kpa_74 kco_74 kde_74 kro_74 krd_74 (own_upd (own_upd (own_upd (own_upd (own_upd (own_upd (own_upd (own_upd (own_upd (own_upd (own_upd (fun _ => 0) 0 0) 1 1) 0 1) 1 0) 2 2) 0 2) 2 1) 0 1) 2 2) tp_158 tp_158) ot_158 ot_158) (own_upd (own_upd (own_upd (own_upd (own_upd (own_upd (own_upd (own_upd (own_upd (own_upd (own_upd (fun _ => 0) 0 0) 1 1) 1 0) 0 1) 2 2) 2 0) 1 2) 1 0) 2 2) tp_158 tp_158) ot_158 ot_158) (own_upd (own_upd (own_upd (own_upd (own_upd (fun _ => 0) 0 (-1)) 1 (-1)) 2 (-1)) tp_158 ot_158) 2 (-1)) (own_upd (own_upd (own_upd (own_upd (fun _ => 0) 0 (-1)) 1 (-1)) 2 (-1)) ot_158 tp_158) (own_upd (own_upd (own_upd (own_upd (fun _ => 0) 0 1) 1 1) 2 1) 2 0) (own_upd (own_upd (own_upd (own_upd (fun _ => 0) 0 0) 1 0) 2 0) tp_158 1) (own_upd (own_upd (fun _ => 0) 0 1) 1 0) (own_upd (own_upd (own_upd (own_upd (own_upd RD_74 0 1) 0 (-1)) 1 tp_158) 0 (-1)) 1 (-1)) tp_158 ot_158 T158.heap n0 q165 G158_0 G158_1 G158_2 G158_3 G158_4 G158_5 G158_6 G158_7 G158_8 G158_9 G158_10 G158_11 G158_12 G158_13 G158_14 G158_15 G158_16 G158_17 G158_19 G158_20 (Nat.le_trans Z0 sz73) (Nat.le_trans Z0 szG74_4) (Nat.le_trans Z0 szG74_3) (Nat.le_trans Z0 szG74_2) (Nat.le_trans Z0 szG74_1) (Nat.le_trans Z0 szG74_7) (Nat.le_trans Z0 szG74_5) (Nat.le_trans Z0 szG74_8) (Nat.le_trans Z0 szG74_9) (by omega) (by omega) (by omega) ((own_un (by omega)).trans (own_us _ _ _)) ((own_un (by omega)).trans (own_us _ _ _)) (own_us _ _ _) (own_us _ _ _) (G158_21.elim (fun z => by obtain ⟨rfl, rfl, -⟩ := z; first | rfl | exact (own_un (by decide)).trans ((own_un (by decide)).trans (own_us _ _ _))) (fun z => by obtain ⟨rfl, rfl, -⟩ := z; first | rfl | exact (own_un (by decide)).trans ((own_un (by decide)).trans ((own_un (by decide)).trans (own_us _ _ _))))) ((own_un (by decide)).trans (own_us _ _ _)) ne78 G74_21 (Ne.symm G74_20) ne84 G74_34 ne83 (Ne.symm G74_22) (Ne.symm G74_35) (Ne.symm G74_40) G74_25 G74_38 G74_43 G74_26 G74_39 (Ne.symm G74_44) ne159 G74_47 (Ne.symm G74_54) ne161 (Ne.symm G74_24) (Ne.symm G74_37) (Ne.symm G74_42) ne82 G74_53 G74_52 (Ne.symm G74_19) G74_27 G74_28 ne79 G74_33 G74_32 G74_31) rfl (a := b73) G158_0 f0_106 (argsL := []) (rest := []) rfl rfl (lenOf pd_7 rfl) rfl (W := 0) (Nat.le_of_eq rfl) (by decide) (by decide) (by decide) (by decide) ?_
          intro v164 T164 L164 X164 q164
          obtain ⟨rfl, Nq164, K164, G164_0, G164_1, G164_2, G164_3, G164_4, G164_5, G164_6, G164_7, G164_8, G164_9, G164_10, G164_11, G164_12, G164_13, G164_14, G164_15, G164_16, G164_17, G164_18⟩ := q164
          have N164 := Fr.app N158 Nq164
          show Go p e below s _ _ _ T164 (mkF m 109 #[.val (.int y1), .val (.int y2), .val (.int q0), .val (.int q1), .val (.int q2), .val (.int (3 : Int32)), .val (.int (2 : Int32)), .val (.ref b73), .val (.int (1 : Int32)), .val (.int (0 : Int32)), .unset] [(.int (Int32.ofInt tp_158))])
          refine wpop C X164 f0_109 rfl ?_
          refine wiload C X164 f0_110 rfl ?_
          refine wiconst C X164 f0_112 (3 : Int32) rfl ?_
          refine wicmp_lt C X164 f0_113 ?_ (fun q => absurd (by decide : ((2 : Int32) < (3 : Int32))) q)
          intro _
          refine waload C X164 f0_122 rfl rfl ?_
          refine wvirtual C X164 (y := (⟨"com/example/hornwork/hornwork/FibonacciHeap", "isEmpty", "()Z"⟩ : MethodName)) (z := (⟨"com/example/hornwork/hornwork/FibonacciHeap", "isEmpty", "()Z"⟩ : MethodName)) (tw_39 hw) (tw_40 hw) (notFace_of_selects (args := #[]) (mvT C.2.1 (tw_42 hw))) (tw_42 hw) (tw_41 hw) (tw_43 hw) (tw_3 hw) (by decide) (rm4_1 l Z a0 hw [] b73 ot_158 T164.heap n0 (Nat.le_trans q165 K164.1) G164_11 (by omega)) rfl (a := b73) G164_0 f0_124 (argsL := []) (rest := []) rfl rfl (lenOf pd_5 rfl) rfl (W := 0) (Nat.le_of_eq rfl) (by decide) (by decide) (by decide) (by decide) ?_
          intro v166 T166 L166 X166 q166
          obtain ⟨rfl, Nq166, eq166⟩ := q166
          have N166 := Fr.app N164 Nq166
          show Go p e below s _ _ _ T166 (mkF m 127 #[.val (.int y1), .val (.int y2), .val (.int q0), .val (.int q1), .val (.int q2), .val (.int (3 : Int32)), .val (.int (2 : Int32)), .val (.ref b73), .val (.int (1 : Int32)), .val (.int (0 : Int32)), .unset] [(.int (0 : Int32))])
          refine wistore C X166 f0_127 #[.val (.int y1), .val (.int y2), .val (.int q0), .val (.int q1), .val (.int q2), .val (.int (3 : Int32)), .val (.int (2 : Int32)), .val (.ref b73), .val (.int (1 : Int32)), .val (.int (0 : Int32)), .val (.int (0 : Int32))] rfl ?_
          refine wiload C X166 f0_129 rfl ?_
          refine wif_eq C X166 f0_131 (fun q => absurd q (by decide : ¬ ((1 : Int32) = (0 : Int32)))) ?_
          intro _
          refine wiload C X166 f0_134 rfl ?_
          refine wiload C X166 f0_136 rfl ?_
          refine wif_ne C X166 f0_138 (fun q => absurd q (by decide : ¬ ((3 : Int32) = (0 : Int32)))) ?_
          intro _
          refine wiconst C X166 f0_145 (0 : Int32) rfl ?_
          refine wicmp_ne C X166 f0_146 ?_ (fun q => absurd (by decide : ((0 : Int32) = (0 : Int32))) q)
          intro _
          refine wiload C X166 f0_149 rfl ?_
          refine wiload C X166 f0_151 rfl ?_
          refine wiload C X166 f0_153 rfl ?_
          refine wicmp_ne C X166 f0_155 (fun q => absurd q (by decide : ¬ ((2 : Int32) = (3 : Int32)))) ?_
          intro _
          refine wiconst C X166 f0_162 (0 : Int32) rfl ?_
          refine wicmp_ne C X166 f0_163 ?_ (fun q => absurd (by decide : ((0 : Int32) = (0 : Int32))) q)
          intro _
          refine wiconst C X166 f0_166 (1 : Int32) rfl ?_
          refine wgoto C X166 f0_167 ?_
          refine wiretN C X166 (t := .boolean) (by simp) f0_171 rfl (1 : Int32) (by decide) (by decide) (by decide) ?_
          rw [eq166]
          exact ⟨rfl, N166⟩
        · refine wiload C X148 f0_86 rfl ?_
          refine wiconst C X148 f0_88 (1 : Int32) rfl ?_
          refine wicmp_lt C X148 f0_89 (fun q => absurd q (by decide : ¬ ((3 : Int32) < (1 : Int32)))) ?_
          intro _
          refine waload C X148 f0_92 rfl rfl ?_
          have ne168 : b73 ≠ ro_74 := (Nat.ne_of_lt (Nat.lt_of_lt_of_le A73.lt G74_8))
          have q169 := (((G74_75.keep K76 (ninS (Ne.symm G74_17) (ninS (Ne.symm G74_25) (ninS (Ne.symm G74_32) (ninS (Ne.symm G74_47) (ninS (Ne.symm G74_50) (ninS (Ne.symm G74_52) (ninS (Ne.symm G74_43) (ninS (Ne.symm G74_38) (ninS (Ne.symm ne168) nin0)))))))))).keep K86 (ninS (Ne.symm G74_17) (ninS (Ne.symm G74_25) (ninS (Ne.symm G74_32) (ninS (Ne.symm G74_47) (ninS (Ne.symm G74_50) (ninS (Ne.symm G74_52) (ninS (Ne.symm G74_43) (ninS (Ne.symm G74_38) (ninS (Ne.symm ne168) nin0)))))))))).keep K147 (ninS (Ne.symm G74_17) (ninS (Ne.symm G74_25) (ninS (Ne.symm G74_32) (ninS (Ne.symm G74_47) (ninS (Ne.symm G74_50) (ninS (Ne.symm G74_52) (ninS (Ne.symm G74_43) (ninS (Ne.symm G74_38) (ninS (Ne.symm ne168) nin0))))))))))
          have ne170 : b73 ≠ rd_74 := (Nat.ne_of_lt (Nat.lt_of_lt_of_le A73.lt G74_9))
          have q171 := (((G74_76.keep K76 (ninS (Ne.symm G74_18) (ninS (Ne.symm G74_26) (ninS (Ne.symm G74_33) (ninS (Ne.symm G74_48) (ninS (Ne.symm G74_51) (ninS (Ne.symm G74_53) (ninS (Ne.symm G74_44) (ninS (Ne.symm G74_39) (ninS (Ne.symm ne170) nin0)))))))))).keep K86 (ninS (Ne.symm G74_18) (ninS (Ne.symm G74_26) (ninS (Ne.symm G74_33) (ninS (Ne.symm G74_48) (ninS (Ne.symm G74_51) (ninS (Ne.symm G74_53) (ninS (Ne.symm G74_44) (ninS (Ne.symm G74_39) (ninS (Ne.symm ne170) nin0)))))))))).keep K147 (ninS (Ne.symm G74_18) (ninS (Ne.symm G74_26) (ninS (Ne.symm G74_33) (ninS (Ne.symm G74_48) (ninS (Ne.symm G74_51) (ninS (Ne.symm G74_53) (ninS (Ne.symm G74_44) (ninS (Ne.symm G74_39) (ninS (Ne.symm ne170) nin0))))))))))
          refine wvirtual C X148 (y := (⟨"com/example/hornwork/hornwork/FibonacciHeap", "removeLeast", "()I"⟩ : MethodName)) (z := (⟨"com/example/hornwork/hornwork/FibonacciHeap", "removeLeast", "()I"⟩ : MethodName)) (tw_61 hw) (tw_62 hw) (notFace_of_selects (args := #[]) (mvT C.2.1 (tw_64 hw))) (tw_64 hw) (tw_63 hw) (tw_65 hw) (tw_3 hw) (by decide) (rm9_C l Z a0 hw [] b73 ky_74 pa_74 ch_74 le_74 ri_74 de_74 mk_74 co_74 ro_74 rd_74 kri_74 kle_74 kch_74 kpa_74 kco_74 kde_74 kmk_74 kro_74 krd_74 kky_74 (own_upd (own_upd (own_upd (own_upd (own_upd (own_upd (own_upd (fun _ => 0) 0 0) 1 1) 0 1) 1 0) 2 2) 0 2) 2 1) (own_upd (own_upd (own_upd (own_upd (own_upd (own_upd (own_upd (fun _ => 0) 0 0) 1 1) 1 0) 0 1) 2 2) 2 0) 1 2) (own_upd (own_upd (own_upd (fun _ => 0) 0 (-1)) 1 (-1)) 2 (-1)) (own_upd (own_upd (own_upd (fun _ => 0) 0 (-1)) 1 (-1)) 2 (-1)) (own_upd (own_upd (own_upd (fun _ => 0) 0 1) 1 1) 2 1) (own_upd (own_upd (own_upd (fun _ => 0) 0 0) 1 0) 2 0) (own_upd (own_upd (own_upd (fun _ => 0) 0 0) 1 0) 2 0) (fun _ => 0) RD_74 (own_updD (own_updD (own_updD (fun _ => 0) 0 (FP.i2d q0)) 1 (FP.i2d q1)) 2 (FP.i2d q2)) 2 1 0 (own_upd (own_upd (own_upd (fun _ => 0) 0 q0.toInt) 1 q1.toInt) 2 q2.toInt) T147.heap n0 (Nat.le_trans (Nat.le_trans q87 K86.1) K147.1) G147_0 G147_1 G147_2 G147_3 G147_4 G147_5 G147_6 G147_7 G147_8 G147_9 G147_10 G147_11 G147_18 G147_19 G147_14 G147_13 G147_17 G147_15 G147_16 q169 q171 G147_12 (Nat.le_trans Z0 sz73) (Nat.le_trans Z0 szG74_4) (Nat.le_trans Z0 szG74_3) (Nat.le_trans Z0 szG74_2) (Nat.le_trans Z0 szG74_1) (Nat.le_trans Z0 szG74_7) (Nat.le_trans Z0 szG74_5) (Nat.le_trans Z0 szG74_6) (Nat.le_trans Z0 szG74_8) (Nat.le_trans Z0 szG74_9) (by omega) (by omega) (by omega) (by omega) (by omega) (by omega) (own_hK (own_hK (own_hK own_hK0 (own_i2d q0)) (own_i2d q1)) (own_i2d q2)) (own_us _ _ _) ((own_un (by decide)).trans (own_us _ _ _)) ((own_un (by decide)).trans ((own_un (by decide)).trans (own_us _ _ _))) (own_us _ _ _) ((own_un (by decide)).trans ((own_un (by decide)).trans ((own_un (by decide)).trans (own_us _ _ _)))) ((own_un (by decide)).trans (own_us _ _ _)) ((own_un (by decide)).trans ((own_un (by decide)).trans ((own_un (by decide)).trans (own_us _ _ _)))) ((own_un (by decide)).trans (own_us _ _ _)) ((own_un (by decide)).trans ((own_un (by decide)).trans (own_us _ _ _))) (G74_77 0 (by decide)) (G74_77 1 (by decide)) ne84 G74_34 ne83 G74_27 G74_28 (Ne.symm G74_20) G74_21 (Ne.symm G74_35) (Ne.symm G74_40) G74_36 (Ne.symm G74_41) G74_38 G74_43 G74_39 (Ne.symm G74_44) G74_12 G74_13 ne168 G74_47 (Ne.symm G74_54) ne170 G74_48 G74_17 G74_18 G74_32 G74_33 G74_25 G74_26 G74_50 G74_51 ne79 (Ne.symm G74_19) ne78 G74_29 (Ne.symm G74_22) ne80 G74_30 (Ne.symm G74_23) G74_45 ne81 (Ne.symm G74_37) (Ne.symm G74_42) ne82 G74_53 G74_52 (Ne.symm G74_49) (Ne.symm G74_46) (Ne.symm G74_24) G74_31) eq148 (a := b73) G147_0 f0_94 (argsL := []) (rest := []) rfl rfl (lenOf pd_7 rfl) rfl (W := 0) (Nat.le_of_eq rfl) (by decide) (by decide) (by decide) (by decide) ?_
          intro v167 T167 L167 X167 q167
          obtain ⟨tp_167, ot_167, rfl, Nq167, K167, G167_0, G167_1, G167_2, G167_3, G167_4, G167_5, G167_6, G167_7, G167_8, G167_9, G167_10, G167_11, G167_12, G167_13, G167_14, G167_15, G167_16, G167_17, G167_18, G167_19, G167_20, G167_21⟩ := q167
          have q172 := (Nat.le_trans (Nat.le_trans (Nat.le_trans q85 K76.1) K86.1) K147.1)
          have N167 := Fr.app N148 Nq167
          show Go p e below s _ _ _ T167 (mkF m 97 #[.val (.int y1), .val (.int y2), .val (.int q0), .val (.int q1), .val (.int q2), .val (.int (3 : Int32)), .val (.int (3 : Int32)), .val (.ref b73), .val (.int (1 : Int32)), .val (.int (0 : Int32)), .unset] [(.int (Int32.ofInt 2))])
          have htp : tp_167 < 3 ∧ ot_167 < 3 ∧ tp_167 ≠ ot_167 ∧ tp_167 ≠ 2 ∧ ot_167 ≠ 2 := by rcases G167_21 with ⟨z1, z2, -⟩ | ⟨z1, z2, -⟩ <;> omega
          refine wpop C X167 f0_97 rfl ?_
          refine wiload C X167 f0_98 rfl ?_
          refine wiconst C X167 f0_100 (2 : Int32) rfl ?_
          refine wicmp_lt C X167 f0_101 (fun q => absurd q (by decide : ¬ ((3 : Int32) < (2 : Int32)))) ?_
          intro _
          refine waload C X167 f0_104 rfl rfl ?_
          have q174 := (Nat.le_trans (Nat.le_trans (Nat.le_trans q87 K86.1) K147.1) K167.1)
          refine wvirtual C X167 (y := (⟨"com/example/hornwork/hornwork/FibonacciHeap", "removeLeast", "()I"⟩ : MethodName)) (z := (⟨"com/example/hornwork/hornwork/FibonacciHeap", "removeLeast", "()I"⟩ : MethodName)) (tw_61 hw) (tw_62 hw) (notFace_of_selects (args := #[]) (mvT C.2.1 (tw_64 hw))) (tw_64 hw) (tw_63 hw) (tw_65 hw) (tw_3 hw) (by decide) (rm9_D l Z a0 hw [] b73 ky_74 pa_74 ch_74 le_74 ri_74 de_74 mk_74 co_74 ro_74 rd_74 kri_74 kle_74 kch_74 kpa_74 kco_74 kde_74 kro_74 krd_74 (own_upd (own_upd (own_upd (own_upd (own_upd (own_upd (own_upd (own_upd (own_upd (own_upd (own_upd (fun _ => 0) 0 0) 1 1) 0 1) 1 0) 2 2) 0 2) 2 1) 0 1) 2 2) tp_167 tp_167) ot_167 ot_167) (own_upd (own_upd (own_upd (own_upd (own_upd (own_upd (own_upd (own_upd (own_upd (own_upd (own_upd (fun _ => 0) 0 0) 1 1) 1 0) 0 1) 2 2) 2 0) 1 2) 1 0) 2 2) tp_167 tp_167) ot_167 ot_167) (own_upd (own_upd (own_upd (own_upd (own_upd (fun _ => 0) 0 (-1)) 1 (-1)) 2 (-1)) tp_167 ot_167) 2 (-1)) (own_upd (own_upd (own_upd (own_upd (fun _ => 0) 0 (-1)) 1 (-1)) 2 (-1)) ot_167 tp_167) (own_upd (own_upd (own_upd (own_upd (fun _ => 0) 0 1) 1 1) 2 1) 2 0) (own_upd (own_upd (own_upd (own_upd (fun _ => 0) 0 0) 1 0) 2 0) tp_167 1) (own_upd (own_upd (fun _ => 0) 0 1) 1 0) (own_upd (own_upd (own_upd (own_upd (own_upd RD_74 0 1) 0 (-1)) 1 tp_167) 0 (-1)) 1 (-1)) tp_167 ot_167 T167.heap n0 q174 G167_0 G167_1 G167_2 G167_3 G167_4 G167_5 G167_6 G167_7 G167_8 G167_9 G167_10 G167_11 G167_12 G167_13 G167_14 G167_15 G167_16 G167_17 G167_19 G167_20 (Nat.le_trans Z0 sz73) (Nat.le_trans Z0 szG74_4) (Nat.le_trans Z0 szG74_3) (Nat.le_trans Z0 szG74_2) (Nat.le_trans Z0 szG74_1) (Nat.le_trans Z0 szG74_7) (Nat.le_trans Z0 szG74_5) (Nat.le_trans Z0 szG74_8) (Nat.le_trans Z0 szG74_9) (by omega) (by omega) (by omega) ((own_un (by omega)).trans (own_us _ _ _)) ((own_un (by omega)).trans (own_us _ _ _)) (own_us _ _ _) (own_us _ _ _) (G167_21.elim (fun z => by obtain ⟨rfl, rfl, -⟩ := z; first | rfl | exact (own_un (by decide)).trans ((own_un (by decide)).trans (own_us _ _ _))) (fun z => by obtain ⟨rfl, rfl, -⟩ := z; first | rfl | exact (own_un (by decide)).trans ((own_un (by decide)).trans ((own_un (by decide)).trans (own_us _ _ _))))) ((own_un (by decide)).trans (own_us _ _ _)) ne78 G74_21 (Ne.symm G74_20) ne84 G74_34 ne83 (Ne.symm G74_22) (Ne.symm G74_35) (Ne.symm G74_40) G74_25 G74_38 G74_43 G74_26 G74_39 (Ne.symm G74_44) ne168 G74_47 (Ne.symm G74_54) ne170 (Ne.symm G74_24) (Ne.symm G74_37) (Ne.symm G74_42) ne82 G74_53 G74_52 (Ne.symm G74_19) G74_27 G74_28 ne79 G74_33 G74_32 G74_31) rfl (a := b73) G167_0 f0_106 (argsL := []) (rest := []) rfl rfl (lenOf pd_7 rfl) rfl (W := 0) (Nat.le_of_eq rfl) (by decide) (by decide) (by decide) (by decide) ?_
          intro v173 T173 L173 X173 q173
          obtain ⟨rfl, Nq173, K173, G173_0, G173_1, G173_2, G173_3, G173_4, G173_5, G173_6, G173_7, G173_8, G173_9, G173_10, G173_11, G173_12, G173_13, G173_14, G173_15, G173_16, G173_17, G173_18⟩ := q173
          have N173 := Fr.app N167 Nq173
          show Go p e below s _ _ _ T173 (mkF m 109 #[.val (.int y1), .val (.int y2), .val (.int q0), .val (.int q1), .val (.int q2), .val (.int (3 : Int32)), .val (.int (3 : Int32)), .val (.ref b73), .val (.int (1 : Int32)), .val (.int (0 : Int32)), .unset] [(.int (Int32.ofInt tp_167))])
          refine wpop C X173 f0_109 rfl ?_
          refine wiload C X173 f0_110 rfl ?_
          refine wiconst C X173 f0_112 (3 : Int32) rfl ?_
          refine wicmp_lt C X173 f0_113 (fun q => absurd q (by decide : ¬ ((3 : Int32) < (3 : Int32)))) ?_
          intro _
          refine waload C X173 f0_116 rfl rfl ?_
          refine wvirtual C X173 (y := (⟨"com/example/hornwork/hornwork/FibonacciHeap", "removeLeast", "()I"⟩ : MethodName)) (z := (⟨"com/example/hornwork/hornwork/FibonacciHeap", "removeLeast", "()I"⟩ : MethodName)) (tw_61 hw) (tw_62 hw) (notFace_of_selects (args := #[]) (mvT C.2.1 (tw_64 hw))) (tw_64 hw) (tw_63 hw) (tw_65 hw) (tw_3 hw) (by decide) (rm9_A l Z a0 hw [] b73 ky_74 pa_74 ch_74 le_74 ri_74 de_74 mk_74 co_74 ro_74 rd_74 kri_74 kch_74 kco_74 (own_upd (own_upd (own_upd (own_upd (own_upd (own_upd (own_upd (own_upd (own_upd (own_upd (own_upd (own_upd (own_upd (own_upd (own_upd (fun _ => 0) 0 0) 1 1) 0 1) 1 0) 2 2) 0 2) 2 1) 0 1) 2 2) tp_167 tp_167) ot_167 ot_167) tp_167 ot_167) ot_167 tp_167) ot_167 ot_167) tp_167 tp_167) (own_upd (own_upd (own_upd (own_upd (own_upd (own_upd (fun _ => 0) 0 (-1)) 1 (-1)) 2 (-1)) tp_167 ot_167) 2 (-1)) tp_167 (-1)) (own_upd (own_upd (own_upd (own_upd (own_upd (fun _ => 0) 0 1) 1 1) 2 1) 2 0) tp_167 0) ot_167 T173.heap n0 (Nat.le_trans q174 K173.1) G173_0 G173_1 G173_2 G173_3 G173_4 G173_5 G173_6 G173_7 G173_8 G173_9 G173_10 G173_11 G173_12 G173_14 G173_16 (Nat.le_trans Z0 sz73) (Nat.le_trans Z0 szG74_4) (Nat.le_trans Z0 szG74_2) (Nat.le_trans Z0 szG74_7) (by omega) (G167_21.elim (fun z => by obtain ⟨rfl, rfl, -⟩ := z; first | rfl | exact (own_un (by decide)).trans ((own_un (by decide)).trans ((own_un (by decide)).trans ((own_un (by decide)).trans (own_us _ _ _))))) (fun z => by obtain ⟨rfl, rfl, -⟩ := z; first | rfl | exact (own_un (by decide)).trans ((own_un (by decide)).trans ((own_un (by decide)).trans ((own_un (by decide)).trans ((own_un (by decide)).trans (own_us _ _ _))))))) ((own_un (by omega)).trans (own_us _ _ _)) ne82 ne79 G74_31) rfl (a := b73) G173_0 f0_118 (argsL := []) (rest := []) rfl rfl (lenOf pd_7 rfl) rfl (W := 0) (Nat.le_of_eq rfl) (by decide) (by decide) (by decide) (by decide) ?_
          intro v175 T175 L175 X175 q175
          obtain ⟨rfl, Nq175, K175, G175_0, G175_1, G175_2, G175_3, G175_4, G175_5, G175_6, G175_7, G175_8, G175_9, G175_10, G175_11, G175_12, G175_13⟩ := q175
          have N175 := Fr.app N173 Nq175
          show Go p e below s _ _ _ T175 (mkF m 121 #[.val (.int y1), .val (.int y2), .val (.int q0), .val (.int q1), .val (.int q2), .val (.int (3 : Int32)), .val (.int (3 : Int32)), .val (.ref b73), .val (.int (1 : Int32)), .val (.int (0 : Int32)), .unset] [(.int (Int32.ofInt ot_167))])
          refine wpop C X175 f0_121 rfl ?_
          refine waload C X175 f0_122 rfl rfl ?_
          refine wvirtual C X175 (y := (⟨"com/example/hornwork/hornwork/FibonacciHeap", "isEmpty", "()Z"⟩ : MethodName)) (z := (⟨"com/example/hornwork/hornwork/FibonacciHeap", "isEmpty", "()Z"⟩ : MethodName)) (tw_39 hw) (tw_40 hw) (notFace_of_selects (args := #[]) (mvT C.2.1 (tw_42 hw))) (tw_42 hw) (tw_41 hw) (tw_43 hw) (tw_3 hw) (by decide) (rm4_0 l Z a0 hw [] b73 T175.heap n0 (Nat.le_trans (Nat.le_trans q174 K173.1) K175.1) G175_11) rfl (a := b73) G175_0 f0_124 (argsL := []) (rest := []) rfl rfl (lenOf pd_5 rfl) rfl (W := 0) (Nat.le_of_eq rfl) (by decide) (by decide) (by decide) (by decide) ?_
          intro v176 T176 L176 X176 q176
          obtain ⟨rfl, Nq176, eq176⟩ := q176
          have N176 := Fr.app N175 Nq176
          show Go p e below s _ _ _ T176 (mkF m 127 #[.val (.int y1), .val (.int y2), .val (.int q0), .val (.int q1), .val (.int q2), .val (.int (3 : Int32)), .val (.int (3 : Int32)), .val (.ref b73), .val (.int (1 : Int32)), .val (.int (0 : Int32)), .unset] [(.int (1 : Int32))])
          refine wistore C X176 f0_127 #[.val (.int y1), .val (.int y2), .val (.int q0), .val (.int q1), .val (.int q2), .val (.int (3 : Int32)), .val (.int (3 : Int32)), .val (.ref b73), .val (.int (1 : Int32)), .val (.int (0 : Int32)), .val (.int (1 : Int32))] rfl ?_
          refine wiload C X176 f0_129 rfl ?_
          refine wif_eq C X176 f0_131 (fun q => absurd q (by decide : ¬ ((1 : Int32) = (0 : Int32)))) ?_
          intro _
          refine wiload C X176 f0_134 rfl ?_
          refine wiload C X176 f0_136 rfl ?_
          refine wif_ne C X176 f0_138 (fun q => absurd q (by decide : ¬ ((3 : Int32) = (0 : Int32)))) ?_
          intro _
          refine wiconst C X176 f0_145 (0 : Int32) rfl ?_
          refine wicmp_ne C X176 f0_146 ?_ (fun q => absurd (by decide : ((0 : Int32) = (0 : Int32))) q)
          intro _
          refine wiload C X176 f0_149 rfl ?_
          refine wiload C X176 f0_151 rfl ?_
          refine wiload C X176 f0_153 rfl ?_
          refine wicmp_ne C X176 f0_155 ?_ (fun q => absurd (by decide : ((3 : Int32) = (3 : Int32))) q)
          intro _
          refine wiconst C X176 f0_158 (1 : Int32) rfl ?_
          refine wgoto C X176 f0_159 ?_
          refine wicmp_ne C X176 f0_163 ?_ (fun q => absurd (by decide : ((1 : Int32) = (1 : Int32))) q)
          intro _
          refine wiconst C X176 f0_166 (1 : Int32) rfl ?_
          refine wgoto C X176 f0_167 ?_
          refine wiretN C X176 (t := .boolean) (by simp) f0_171 rfl (1 : Int32) (by decide) (by decide) (by decide) ?_
          rw [eq176]
          exact ⟨rfl, N176⟩
      · refine waload C X147 f0_79 rfl rfl ?_
        refine wvirtual C X147 (y := (⟨"com/example/hornwork/hornwork/FibonacciHeap", "isEmpty", "()Z"⟩ : MethodName)) (z := (⟨"com/example/hornwork/hornwork/FibonacciHeap", "isEmpty", "()Z"⟩ : MethodName)) (tw_39 hw) (tw_40 hw) (notFace_of_selects (args := #[]) (mvT C.2.1 (tw_42 hw))) (tw_42 hw) (tw_41 hw) (tw_43 hw) (tw_3 hw) (by decide) (rm4_1 l Z a0 hw [] b73 0 T147.heap n0 (Nat.le_trans (Nat.le_trans q87 K86.1) K147.1) G147_11 (by omega)) rfl (a := b73) G147_0 f0_81 (argsL := []) (rest := []) rfl rfl (lenOf pd_5 rfl) rfl (W := 0) (Nat.le_of_eq rfl) (by decide) (by decide) (by decide) (by decide) ?_
        intro v177 T177 L177 X177 q177
        obtain ⟨rfl, Nq177, eq177⟩ := q177
        have N177 := Fr.app N147 Nq177
        show Go p e below s _ _ _ T177 (mkF m 84 #[.val (.int y1), .val (.int y2), .val (.int q0), .val (.int q1), .val (.int q2), .val (.int (3 : Int32)), .val (.int mm), .val (.ref b73), .val (.int (1 : Int32)), .unset, .unset] [(.int (0 : Int32))])
        refine wistore C X177 f0_84 #[.val (.int y1), .val (.int y2), .val (.int q0), .val (.int q1), .val (.int q2), .val (.int (3 : Int32)), .val (.int mm), .val (.ref b73), .val (.int (1 : Int32)), .val (.int (0 : Int32)), .unset] rfl ?_
        rcases own_s3 hmm with rfl | rfl | rfl | rfl
        · refine wiload C X177 f0_86 rfl ?_
          refine wiconst C X177 f0_88 (1 : Int32) rfl ?_
          refine wicmp_lt C X177 f0_89 ?_ (fun q => absurd (by decide : ((0 : Int32) < (1 : Int32))) q)
          intro _
          refine wiload C X177 f0_98 rfl ?_
          refine wiconst C X177 f0_100 (2 : Int32) rfl ?_
          refine wicmp_lt C X177 f0_101 ?_ (fun q => absurd (by decide : ((0 : Int32) < (2 : Int32))) q)
          intro _
          refine wiload C X177 f0_110 rfl ?_
          refine wiconst C X177 f0_112 (3 : Int32) rfl ?_
          refine wicmp_lt C X177 f0_113 ?_ (fun q => absurd (by decide : ((0 : Int32) < (3 : Int32))) q)
          intro _
          refine waload C X177 f0_122 rfl rfl ?_
          refine wvirtual C X177 (y := (⟨"com/example/hornwork/hornwork/FibonacciHeap", "isEmpty", "()Z"⟩ : MethodName)) (z := (⟨"com/example/hornwork/hornwork/FibonacciHeap", "isEmpty", "()Z"⟩ : MethodName)) (tw_39 hw) (tw_40 hw) (notFace_of_selects (args := #[]) (mvT C.2.1 (tw_42 hw))) (tw_42 hw) (tw_41 hw) (tw_43 hw) (tw_3 hw) (by decide) (rm4_1 l Z a0 hw [] b73 0 T147.heap n0 (Nat.le_trans (Nat.le_trans q87 K86.1) K147.1) G147_11 (by omega)) eq177 (a := b73) G147_0 f0_124 (argsL := []) (rest := []) rfl rfl (lenOf pd_5 rfl) rfl (W := 0) (Nat.le_of_eq rfl) (by decide) (by decide) (by decide) (by decide) ?_
          intro v178 T178 L178 X178 q178
          obtain ⟨rfl, Nq178, eq178⟩ := q178
          have N178 := Fr.app N177 Nq178
          show Go p e below s _ _ _ T178 (mkF m 127 #[.val (.int y1), .val (.int y2), .val (.int q0), .val (.int q1), .val (.int q2), .val (.int (3 : Int32)), .val (.int (0 : Int32)), .val (.ref b73), .val (.int (1 : Int32)), .val (.int (0 : Int32)), .unset] [(.int (0 : Int32))])
          refine wistore C X178 f0_127 #[.val (.int y1), .val (.int y2), .val (.int q0), .val (.int q1), .val (.int q2), .val (.int (3 : Int32)), .val (.int (0 : Int32)), .val (.ref b73), .val (.int (1 : Int32)), .val (.int (0 : Int32)), .val (.int (0 : Int32))] rfl ?_
          refine wiload C X178 f0_129 rfl ?_
          refine wif_eq C X178 f0_131 (fun q => absurd q (by decide : ¬ ((1 : Int32) = (0 : Int32)))) ?_
          intro _
          refine wiload C X178 f0_134 rfl ?_
          refine wiload C X178 f0_136 rfl ?_
          refine wif_ne C X178 f0_138 (fun q => absurd q (by decide : ¬ ((3 : Int32) = (0 : Int32)))) ?_
          intro _
          refine wiconst C X178 f0_145 (0 : Int32) rfl ?_
          refine wicmp_ne C X178 f0_146 ?_ (fun q => absurd (by decide : ((0 : Int32) = (0 : Int32))) q)
          intro _
          refine wiload C X178 f0_149 rfl ?_
          refine wiload C X178 f0_151 rfl ?_
          refine wiload C X178 f0_153 rfl ?_
          refine wicmp_ne C X178 f0_155 (fun q => absurd q (by decide : ¬ ((0 : Int32) = (3 : Int32)))) ?_
          intro _
          refine wiconst C X178 f0_162 (0 : Int32) rfl ?_
          refine wicmp_ne C X178 f0_163 ?_ (fun q => absurd (by decide : ((0 : Int32) = (0 : Int32))) q)
          intro _
          refine wiconst C X178 f0_166 (1 : Int32) rfl ?_
          refine wgoto C X178 f0_167 ?_
          refine wiretN C X178 (t := .boolean) (by simp) f0_171 rfl (1 : Int32) (by decide) (by decide) (by decide) ?_
          rw [eq178]
          exact ⟨rfl, N178⟩
        · refine wiload C X177 f0_86 rfl ?_
          refine wiconst C X177 f0_88 (1 : Int32) rfl ?_
          refine wicmp_lt C X177 f0_89 (fun q => absurd q (by decide : ¬ ((1 : Int32) < (1 : Int32)))) ?_
          intro _
          refine waload C X177 f0_92 rfl rfl ?_
          have ne180 : b73 ≠ ro_74 := (Nat.ne_of_lt (Nat.lt_of_lt_of_le A73.lt G74_8))
          have q181 := (((G74_75.keep K76 (ninS (Ne.symm G74_17) (ninS (Ne.symm G74_25) (ninS (Ne.symm G74_32) (ninS (Ne.symm G74_47) (ninS (Ne.symm G74_50) (ninS (Ne.symm G74_52) (ninS (Ne.symm G74_43) (ninS (Ne.symm G74_38) (ninS (Ne.symm ne180) nin0)))))))))).keep K86 (ninS (Ne.symm G74_17) (ninS (Ne.symm G74_25) (ninS (Ne.symm G74_32) (ninS (Ne.symm G74_47) (ninS (Ne.symm G74_50) (ninS (Ne.symm G74_52) (ninS (Ne.symm G74_43) (ninS (Ne.symm G74_38) (ninS (Ne.symm ne180) nin0)))))))))).keep K147 (ninS (Ne.symm G74_17) (ninS (Ne.symm G74_25) (ninS (Ne.symm G74_32) (ninS (Ne.symm G74_47) (ninS (Ne.symm G74_50) (ninS (Ne.symm G74_52) (ninS (Ne.symm G74_43) (ninS (Ne.symm G74_38) (ninS (Ne.symm ne180) nin0))))))))))
          have ne182 : b73 ≠ rd_74 := (Nat.ne_of_lt (Nat.lt_of_lt_of_le A73.lt G74_9))
          have q183 := (((G74_76.keep K76 (ninS (Ne.symm G74_18) (ninS (Ne.symm G74_26) (ninS (Ne.symm G74_33) (ninS (Ne.symm G74_48) (ninS (Ne.symm G74_51) (ninS (Ne.symm G74_53) (ninS (Ne.symm G74_44) (ninS (Ne.symm G74_39) (ninS (Ne.symm ne182) nin0)))))))))).keep K86 (ninS (Ne.symm G74_18) (ninS (Ne.symm G74_26) (ninS (Ne.symm G74_33) (ninS (Ne.symm G74_48) (ninS (Ne.symm G74_51) (ninS (Ne.symm G74_53) (ninS (Ne.symm G74_44) (ninS (Ne.symm G74_39) (ninS (Ne.symm ne182) nin0)))))))))).keep K147 (ninS (Ne.symm G74_18) (ninS (Ne.symm G74_26) (ninS (Ne.symm G74_33) (ninS (Ne.symm G74_48) (ninS (Ne.symm G74_51) (ninS (Ne.symm G74_53) (ninS (Ne.symm G74_44) (ninS (Ne.symm G74_39) (ninS (Ne.symm ne182) nin0))))))))))
          refine wvirtual C X177 (y := (⟨"com/example/hornwork/hornwork/FibonacciHeap", "removeLeast", "()I"⟩ : MethodName)) (z := (⟨"com/example/hornwork/hornwork/FibonacciHeap", "removeLeast", "()I"⟩ : MethodName)) (tw_61 hw) (tw_62 hw) (notFace_of_selects (args := #[]) (mvT C.2.1 (tw_64 hw))) (tw_64 hw) (tw_63 hw) (tw_65 hw) (tw_3 hw) (by decide) (rm9_C l Z a0 hw [] b73 ky_74 pa_74 ch_74 le_74 ri_74 de_74 mk_74 co_74 ro_74 rd_74 kri_74 kle_74 kch_74 kpa_74 kco_74 kde_74 kmk_74 kro_74 krd_74 kky_74 (own_upd (own_upd (own_upd (own_upd (own_upd (own_upd (own_upd (fun _ => 0) 0 0) 1 1) 0 1) 1 0) 2 2) 0 2) 2 1) (own_upd (own_upd (own_upd (own_upd (own_upd (own_upd (own_upd (fun _ => 0) 0 0) 1 1) 1 0) 0 1) 2 2) 2 0) 1 2) (own_upd (own_upd (own_upd (fun _ => 0) 0 (-1)) 1 (-1)) 2 (-1)) (own_upd (own_upd (own_upd (fun _ => 0) 0 (-1)) 1 (-1)) 2 (-1)) (own_upd (own_upd (own_upd (fun _ => 0) 0 1) 1 1) 2 1) (own_upd (own_upd (own_upd (fun _ => 0) 0 0) 1 0) 2 0) (own_upd (own_upd (own_upd (fun _ => 0) 0 0) 1 0) 2 0) (fun _ => 0) RD_74 (own_updD (own_updD (own_updD (fun _ => 0) 0 (FP.i2d q0)) 1 (FP.i2d q1)) 2 (FP.i2d q2)) 0 2 1 (own_upd (own_upd (own_upd (fun _ => 0) 0 q0.toInt) 1 q1.toInt) 2 q2.toInt) T147.heap n0 (Nat.le_trans (Nat.le_trans q87 K86.1) K147.1) G147_0 G147_1 G147_2 G147_3 G147_4 G147_5 G147_6 G147_7 G147_8 G147_9 G147_10 G147_11 G147_18 G147_19 G147_14 G147_13 G147_17 G147_15 G147_16 q181 q183 G147_12 (Nat.le_trans Z0 sz73) (Nat.le_trans Z0 szG74_4) (Nat.le_trans Z0 szG74_3) (Nat.le_trans Z0 szG74_2) (Nat.le_trans Z0 szG74_1) (Nat.le_trans Z0 szG74_7) (Nat.le_trans Z0 szG74_5) (Nat.le_trans Z0 szG74_6) (Nat.le_trans Z0 szG74_8) (Nat.le_trans Z0 szG74_9) (by omega) (by omega) (by omega) (by omega) (by omega) (by omega) (own_hK (own_hK (own_hK own_hK0 (own_i2d q0)) (own_i2d q1)) (own_i2d q2)) ((own_un (by decide)).trans ((own_un (by decide)).trans (own_us _ _ _))) (own_us _ _ _) ((own_un (by decide)).trans (own_us _ _ _)) ((own_un (by decide)).trans (own_us _ _ _)) (own_us _ _ _) ((own_un (by decide)).trans ((own_un (by decide)).trans ((own_un (by decide)).trans (own_us _ _ _)))) (own_us _ _ _) (own_us _ _ _) ((own_un (by decide)).trans (own_us _ _ _)) (G74_77 0 (by decide)) (G74_77 1 (by decide)) ne84 G74_34 ne83 G74_27 G74_28 (Ne.symm G74_20) G74_21 (Ne.symm G74_35) (Ne.symm G74_40) G74_36 (Ne.symm G74_41) G74_38 G74_43 G74_39 (Ne.symm G74_44) G74_12 G74_13 ne180 G74_47 (Ne.symm G74_54) ne182 G74_48 G74_17 G74_18 G74_32 G74_33 G74_25 G74_26 G74_50 G74_51 ne79 (Ne.symm G74_19) ne78 G74_29 (Ne.symm G74_22) ne80 G74_30 (Ne.symm G74_23) G74_45 ne81 (Ne.symm G74_37) (Ne.symm G74_42) ne82 G74_53 G74_52 (Ne.symm G74_49) (Ne.symm G74_46) (Ne.symm G74_24) G74_31) eq177 (a := b73) G147_0 f0_94 (argsL := []) (rest := []) rfl rfl (lenOf pd_7 rfl) rfl (W := 0) (Nat.le_of_eq rfl) (by decide) (by decide) (by decide) (by decide) ?_
          intro v179 T179 L179 X179 q179
          obtain ⟨tp_179, ot_179, rfl, Nq179, K179, G179_0, G179_1, G179_2, G179_3, G179_4, G179_5, G179_6, G179_7, G179_8, G179_9, G179_10, G179_11, G179_12, G179_13, G179_14, G179_15, G179_16, G179_17, G179_18, G179_19, G179_20, G179_21⟩ := q179
          have q184 := (Nat.le_trans (Nat.le_trans (Nat.le_trans q85 K76.1) K86.1) K147.1)
          have N179 := Fr.app N177 Nq179
          show Go p e below s _ _ _ T179 (mkF m 97 #[.val (.int y1), .val (.int y2), .val (.int q0), .val (.int q1), .val (.int q2), .val (.int (3 : Int32)), .val (.int (1 : Int32)), .val (.ref b73), .val (.int (1 : Int32)), .val (.int (0 : Int32)), .unset] [(.int (Int32.ofInt 0))])
          have htp : tp_179 < 3 ∧ ot_179 < 3 ∧ tp_179 ≠ ot_179 ∧ tp_179 ≠ 0 ∧ ot_179 ≠ 0 := by rcases G179_21 with ⟨z1, z2, -⟩ | ⟨z1, z2, -⟩ <;> omega
          refine wpop C X179 f0_97 rfl ?_
          refine wiload C X179 f0_98 rfl ?_
          refine wiconst C X179 f0_100 (2 : Int32) rfl ?_
          refine wicmp_lt C X179 f0_101 ?_ (fun q => absurd (by decide : ((1 : Int32) < (2 : Int32))) q)
          intro _
          refine wiload C X179 f0_110 rfl ?_
          refine wiconst C X179 f0_112 (3 : Int32) rfl ?_
          refine wicmp_lt C X179 f0_113 ?_ (fun q => absurd (by decide : ((1 : Int32) < (3 : Int32))) q)
          intro _
          refine waload C X179 f0_122 rfl rfl ?_
          have q186 := (Nat.le_trans (Nat.le_trans (Nat.le_trans q87 K86.1) K147.1) K179.1)
          refine wvirtual C X179 (y := (⟨"com/example/hornwork/hornwork/FibonacciHeap", "isEmpty", "()Z"⟩ : MethodName)) (z := (⟨"com/example/hornwork/hornwork/FibonacciHeap", "isEmpty", "()Z"⟩ : MethodName)) (tw_39 hw) (tw_40 hw) (notFace_of_selects (args := #[]) (mvT C.2.1 (tw_42 hw))) (tw_42 hw) (tw_41 hw) (tw_43 hw) (tw_3 hw) (by decide) (rm4_1 l Z a0 hw [] b73 tp_179 T179.heap n0 q186 G179_11 (by omega)) rfl (a := b73) G179_0 f0_124 (argsL := []) (rest := []) rfl rfl (lenOf pd_5 rfl) rfl (W := 0) (Nat.le_of_eq rfl) (by decide) (by decide) (by decide) (by decide) ?_
          intro v185 T185 L185 X185 q185
          obtain ⟨rfl, Nq185, eq185⟩ := q185
          have N185 := Fr.app N179 Nq185
          show Go p e below s _ _ _ T185 (mkF m 127 #[.val (.int y1), .val (.int y2), .val (.int q0), .val (.int q1), .val (.int q2), .val (.int (3 : Int32)), .val (.int (1 : Int32)), .val (.ref b73), .val (.int (1 : Int32)), .val (.int (0 : Int32)), .unset] [(.int (0 : Int32))])
          refine wistore C X185 f0_127 #[.val (.int y1), .val (.int y2), .val (.int q0), .val (.int q1), .val (.int q2), .val (.int (3 : Int32)), .val (.int (1 : Int32)), .val (.ref b73), .val (.int (1 : Int32)), .val (.int (0 : Int32)), .val (.int (0 : Int32))] rfl ?_
          refine wiload C X185 f0_129 rfl ?_
          refine wif_eq C X185 f0_131 (fun q => absurd q (by decide : ¬ ((1 : Int32) = (0 : Int32)))) ?_
          intro _
          refine wiload C X185 f0_134 rfl ?_
          refine wiload C X185 f0_136 rfl ?_
          refine wif_ne C X185 f0_138 (fun q => absurd q (by decide : ¬ ((3 : Int32) = (0 : Int32)))) ?_
          intro _
          refine wiconst C X185 f0_145 (0 : Int32) rfl ?_
          refine wicmp_ne C X185 f0_146 ?_ (fun q => absurd (by decide : ((0 : Int32) = (0 : Int32))) q)
          intro _
          refine wiload C X185 f0_149 rfl ?_
          refine wiload C X185 f0_151 rfl ?_
          refine wiload C X185 f0_153 rfl ?_
          refine wicmp_ne C X185 f0_155 (fun q => absurd q (by decide : ¬ ((1 : Int32) = (3 : Int32)))) ?_
          intro _
          refine wiconst C X185 f0_162 (0 : Int32) rfl ?_
          refine wicmp_ne C X185 f0_163 ?_ (fun q => absurd (by decide : ((0 : Int32) = (0 : Int32))) q)
          intro _
          refine wiconst C X185 f0_166 (1 : Int32) rfl ?_
          refine wgoto C X185 f0_167 ?_
          refine wiretN C X185 (t := .boolean) (by simp) f0_171 rfl (1 : Int32) (by decide) (by decide) (by decide) ?_
          rw [eq185]
          exact ⟨rfl, N185⟩
        · refine wiload C X177 f0_86 rfl ?_
          refine wiconst C X177 f0_88 (1 : Int32) rfl ?_
          refine wicmp_lt C X177 f0_89 (fun q => absurd q (by decide : ¬ ((2 : Int32) < (1 : Int32)))) ?_
          intro _
          refine waload C X177 f0_92 rfl rfl ?_
          have ne188 : b73 ≠ ro_74 := (Nat.ne_of_lt (Nat.lt_of_lt_of_le A73.lt G74_8))
          have q189 := (((G74_75.keep K76 (ninS (Ne.symm G74_17) (ninS (Ne.symm G74_25) (ninS (Ne.symm G74_32) (ninS (Ne.symm G74_47) (ninS (Ne.symm G74_50) (ninS (Ne.symm G74_52) (ninS (Ne.symm G74_43) (ninS (Ne.symm G74_38) (ninS (Ne.symm ne188) nin0)))))))))).keep K86 (ninS (Ne.symm G74_17) (ninS (Ne.symm G74_25) (ninS (Ne.symm G74_32) (ninS (Ne.symm G74_47) (ninS (Ne.symm G74_50) (ninS (Ne.symm G74_52) (ninS (Ne.symm G74_43) (ninS (Ne.symm G74_38) (ninS (Ne.symm ne188) nin0)))))))))).keep K147 (ninS (Ne.symm G74_17) (ninS (Ne.symm G74_25) (ninS (Ne.symm G74_32) (ninS (Ne.symm G74_47) (ninS (Ne.symm G74_50) (ninS (Ne.symm G74_52) (ninS (Ne.symm G74_43) (ninS (Ne.symm G74_38) (ninS (Ne.symm ne188) nin0))))))))))
          have ne190 : b73 ≠ rd_74 := (Nat.ne_of_lt (Nat.lt_of_lt_of_le A73.lt G74_9))
          have q191 := (((G74_76.keep K76 (ninS (Ne.symm G74_18) (ninS (Ne.symm G74_26) (ninS (Ne.symm G74_33) (ninS (Ne.symm G74_48) (ninS (Ne.symm G74_51) (ninS (Ne.symm G74_53) (ninS (Ne.symm G74_44) (ninS (Ne.symm G74_39) (ninS (Ne.symm ne190) nin0)))))))))).keep K86 (ninS (Ne.symm G74_18) (ninS (Ne.symm G74_26) (ninS (Ne.symm G74_33) (ninS (Ne.symm G74_48) (ninS (Ne.symm G74_51) (ninS (Ne.symm G74_53) (ninS (Ne.symm G74_44) (ninS (Ne.symm G74_39) (ninS (Ne.symm ne190) nin0)))))))))).keep K147 (ninS (Ne.symm G74_18) (ninS (Ne.symm G74_26) (ninS (Ne.symm G74_33) (ninS (Ne.symm G74_48) (ninS (Ne.symm G74_51) (ninS (Ne.symm G74_53) (ninS (Ne.symm G74_44) (ninS (Ne.symm G74_39) (ninS (Ne.symm ne190) nin0))))))))))
          refine wvirtual C X177 (y := (⟨"com/example/hornwork/hornwork/FibonacciHeap", "removeLeast", "()I"⟩ : MethodName)) (z := (⟨"com/example/hornwork/hornwork/FibonacciHeap", "removeLeast", "()I"⟩ : MethodName)) (tw_61 hw) (tw_62 hw) (notFace_of_selects (args := #[]) (mvT C.2.1 (tw_64 hw))) (tw_64 hw) (tw_63 hw) (tw_65 hw) (tw_3 hw) (by decide) (rm9_C l Z a0 hw [] b73 ky_74 pa_74 ch_74 le_74 ri_74 de_74 mk_74 co_74 ro_74 rd_74 kri_74 kle_74 kch_74 kpa_74 kco_74 kde_74 kmk_74 kro_74 krd_74 kky_74 (own_upd (own_upd (own_upd (own_upd (own_upd (own_upd (own_upd (fun _ => 0) 0 0) 1 1) 0 1) 1 0) 2 2) 0 2) 2 1) (own_upd (own_upd (own_upd (own_upd (own_upd (own_upd (own_upd (fun _ => 0) 0 0) 1 1) 1 0) 0 1) 2 2) 2 0) 1 2) (own_upd (own_upd (own_upd (fun _ => 0) 0 (-1)) 1 (-1)) 2 (-1)) (own_upd (own_upd (own_upd (fun _ => 0) 0 (-1)) 1 (-1)) 2 (-1)) (own_upd (own_upd (own_upd (fun _ => 0) 0 1) 1 1) 2 1) (own_upd (own_upd (own_upd (fun _ => 0) 0 0) 1 0) 2 0) (own_upd (own_upd (own_upd (fun _ => 0) 0 0) 1 0) 2 0) (fun _ => 0) RD_74 (own_updD (own_updD (own_updD (fun _ => 0) 0 (FP.i2d q0)) 1 (FP.i2d q1)) 2 (FP.i2d q2)) 0 2 1 (own_upd (own_upd (own_upd (fun _ => 0) 0 q0.toInt) 1 q1.toInt) 2 q2.toInt) T147.heap n0 (Nat.le_trans (Nat.le_trans q87 K86.1) K147.1) G147_0 G147_1 G147_2 G147_3 G147_4 G147_5 G147_6 G147_7 G147_8 G147_9 G147_10 G147_11 G147_18 G147_19 G147_14 G147_13 G147_17 G147_15 G147_16 q189 q191 G147_12 (Nat.le_trans Z0 sz73) (Nat.le_trans Z0 szG74_4) (Nat.le_trans Z0 szG74_3) (Nat.le_trans Z0 szG74_2) (Nat.le_trans Z0 szG74_1) (Nat.le_trans Z0 szG74_7) (Nat.le_trans Z0 szG74_5) (Nat.le_trans Z0 szG74_6) (Nat.le_trans Z0 szG74_8) (Nat.le_trans Z0 szG74_9) (by omega) (by omega) (by omega) (by omega) (by omega) (by omega) (own_hK (own_hK (own_hK own_hK0 (own_i2d q0)) (own_i2d q1)) (own_i2d q2)) ((own_un (by decide)).trans ((own_un (by decide)).trans (own_us _ _ _))) (own_us _ _ _) ((own_un (by decide)).trans (own_us _ _ _)) ((own_un (by decide)).trans (own_us _ _ _)) (own_us _ _ _) ((own_un (by decide)).trans ((own_un (by decide)).trans ((own_un (by decide)).trans (own_us _ _ _)))) (own_us _ _ _) (own_us _ _ _) ((own_un (by decide)).trans (own_us _ _ _)) (G74_77 0 (by decide)) (G74_77 1 (by decide)) ne84 G74_34 ne83 G74_27 G74_28 (Ne.symm G74_20) G74_21 (Ne.symm G74_35) (Ne.symm G74_40) G74_36 (Ne.symm G74_41) G74_38 G74_43 G74_39 (Ne.symm G74_44) G74_12 G74_13 ne188 G74_47 (Ne.symm G74_54) ne190 G74_48 G74_17 G74_18 G74_32 G74_33 G74_25 G74_26 G74_50 G74_51 ne79 (Ne.symm G74_19) ne78 G74_29 (Ne.symm G74_22) ne80 G74_30 (Ne.symm G74_23) G74_45 ne81 (Ne.symm G74_37) (Ne.symm G74_42) ne82 G74_53 G74_52 (Ne.symm G74_49) (Ne.symm G74_46) (Ne.symm G74_24) G74_31) eq177 (a := b73) G147_0 f0_94 (argsL := []) (rest := []) rfl rfl (lenOf pd_7 rfl) rfl (W := 0) (Nat.le_of_eq rfl) (by decide) (by decide) (by decide) (by decide) ?_
          intro v187 T187 L187 X187 q187
          obtain ⟨tp_187, ot_187, rfl, Nq187, K187, G187_0, G187_1, G187_2, G187_3, G187_4, G187_5, G187_6, G187_7, G187_8, G187_9, G187_10, G187_11, G187_12, G187_13, G187_14, G187_15, G187_16, G187_17, G187_18, G187_19, G187_20, G187_21⟩ := q187
          have q192 := (Nat.le_trans (Nat.le_trans (Nat.le_trans q85 K76.1) K86.1) K147.1)
          have N187 := Fr.app N177 Nq187
          show Go p e below s _ _ _ T187 (mkF m 97 #[.val (.int y1), .val (.int y2), .val (.int q0), .val (.int q1), .val (.int q2), .val (.int (3 : Int32)), .val (.int (2 : Int32)), .val (.ref b73), .val (.int (1 : Int32)), .val (.int (0 : Int32)), .unset] [(.int (Int32.ofInt 0))])
          have htp : tp_187 < 3 ∧ ot_187 < 3 ∧ tp_187 ≠ ot_187 ∧ tp_187 ≠ 0 ∧ ot_187 ≠ 0 := by rcases G187_21 with ⟨z1, z2, -⟩ | ⟨z1, z2, -⟩ <;> omega
          refine wpop C X187 f0_97 rfl ?_
          refine wiload C X187 f0_98 rfl ?_
          refine wiconst C X187 f0_100 (2 : Int32) rfl ?_
          refine wicmp_lt C X187 f0_101 (fun q => absurd q (by decide : ¬ ((2 : Int32) < (2 : Int32)))) ?_
          intro _
          refine waload C X187 f0_104 rfl rfl ?_
          have q194 := (Nat.le_trans (Nat.le_trans (Nat.le_trans q87 K86.1) K147.1) K187.1)
          refine wvirtual C X187 (y := (⟨"com/example/hornwork/hornwork/FibonacciHeap", "removeLeast", "()I"⟩ : MethodName)) (z := (⟨"com/example/hornwork/hornwork/FibonacciHeap", "removeLeast", "()I"⟩ : MethodName)) (tw_61 hw) (tw_62 hw) (notFace_of_selects (args := #[]) (mvT C.2.1 (tw_64 hw))) (tw_64 hw) (tw_63 hw) (tw_65 hw) (tw_3 hw) (by decide) (rm9_D l Z a0 hw [] b73 ky_74 pa_74 ch_74 le_74 ri_74 de_74 mk_74 co_74 ro_74 rd_74 kri_74 kle_74 kch_74 kpa_74 kco_74 kde_74 kro_74 krd_74 (own_upd (own_upd (own_upd (own_upd (own_upd (own_upd (own_upd (own_upd (own_upd (own_upd (own_upd (fun _ => 0) 0 0) 1 1) 0 1) 1 0) 2 2) 0 2) 2 1) 1 2) 0 0) tp_187 tp_187) ot_187 ot_187) (own_upd (own_upd (own_upd (own_upd (own_upd (own_upd (own_upd (own_upd (own_upd (own_upd (own_upd (fun _ => 0) 0 0) 1 1) 1 0) 0 1) 2 2) 2 0) 1 2) 2 1) 0 0) tp_187 tp_187) ot_187 ot_187) (own_upd (own_upd (own_upd (own_upd (own_upd (fun _ => 0) 0 (-1)) 1 (-1)) 2 (-1)) tp_187 ot_187) 0 (-1)) (own_upd (own_upd (own_upd (own_upd (fun _ => 0) 0 (-1)) 1 (-1)) 2 (-1)) ot_187 tp_187) (own_upd (own_upd (own_upd (own_upd (fun _ => 0) 0 1) 1 1) 2 1) 0 0) (own_upd (own_upd (own_upd (own_upd (fun _ => 0) 0 0) 1 0) 2 0) tp_187 1) (own_upd (own_upd (fun _ => 0) 0 2) 1 1) (own_upd (own_upd (own_upd (own_upd (own_upd RD_74 0 2) 0 (-1)) 1 tp_187) 0 (-1)) 1 (-1)) tp_187 ot_187 T187.heap n0 q194 G187_0 G187_1 G187_2 G187_3 G187_4 G187_5 G187_6 G187_7 G187_8 G187_9 G187_10 G187_11 G187_12 G187_13 G187_14 G187_15 G187_16 G187_17 G187_19 G187_20 (Nat.le_trans Z0 sz73) (Nat.le_trans Z0 szG74_4) (Nat.le_trans Z0 szG74_3) (Nat.le_trans Z0 szG74_2) (Nat.le_trans Z0 szG74_1) (Nat.le_trans Z0 szG74_7) (Nat.le_trans Z0 szG74_5) (Nat.le_trans Z0 szG74_8) (Nat.le_trans Z0 szG74_9) (by omega) (by omega) (by omega) ((own_un (by omega)).trans (own_us _ _ _)) ((own_un (by omega)).trans (own_us _ _ _)) (own_us _ _ _) (own_us _ _ _) (G187_21.elim (fun z => by obtain ⟨rfl, rfl, -⟩ := z; first | rfl | exact (own_un (by decide)).trans (own_us _ _ _)) (fun z => by obtain ⟨rfl, rfl, -⟩ := z; first | rfl | exact (own_un (by decide)).trans ((own_un (by decide)).trans (own_us _ _ _)))) ((own_un (by decide)).trans (own_us _ _ _)) ne78 G74_21 (Ne.symm G74_20) ne84 G74_34 ne83 (Ne.symm G74_22) (Ne.symm G74_35) (Ne.symm G74_40) G74_25 G74_38 G74_43 G74_26 G74_39 (Ne.symm G74_44) ne188 G74_47 (Ne.symm G74_54) ne190 (Ne.symm G74_24) (Ne.symm G74_37) (Ne.symm G74_42) ne82 G74_53 G74_52 (Ne.symm G74_19) G74_27 G74_28 ne79 G74_33 G74_32 G74_31) rfl (a := b73) G187_0 f0_106 (argsL := []) (rest := []) rfl rfl (lenOf pd_7 rfl) rfl (W := 0) (Nat.le_of_eq rfl) (by decide) (by decide) (by decide) (by decide) ?_
          intro v193 T193 L193 X193 q193
          obtain ⟨rfl, Nq193, K193, G193_0, G193_1, G193_2, G193_3, G193_4, G193_5, G193_6, G193_7, G193_8, G193_9, G193_10, G193_11, G193_12, G193_13, G193_14, G193_15, G193_16, G193_17, G193_18⟩ := q193
          have N193 := Fr.app N187 Nq193
          show Go p e below s _ _ _ T193 (mkF m 109 #[.val (.int y1), .val (.int y2), .val (.int q0), .val (.int q1), .val (.int q2), .val (.int (3 : Int32)), .val (.int (2 : Int32)), .val (.ref b73), .val (.int (1 : Int32)), .val (.int (0 : Int32)), .unset] [(.int (Int32.ofInt tp_187))])
          refine wpop C X193 f0_109 rfl ?_
          refine wiload C X193 f0_110 rfl ?_
          refine wiconst C X193 f0_112 (3 : Int32) rfl ?_
          refine wicmp_lt C X193 f0_113 ?_ (fun q => absurd (by decide : ((2 : Int32) < (3 : Int32))) q)
          intro _
          refine waload C X193 f0_122 rfl rfl ?_
          refine wvirtual C X193 (y := (⟨"com/example/hornwork/hornwork/FibonacciHeap", "isEmpty", "()Z"⟩ : MethodName)) (z := (⟨"com/example/hornwork/hornwork/FibonacciHeap", "isEmpty", "()Z"⟩ : MethodName)) (tw_39 hw) (tw_40 hw) (notFace_of_selects (args := #[]) (mvT C.2.1 (tw_42 hw))) (tw_42 hw) (tw_41 hw) (tw_43 hw) (tw_3 hw) (by decide) (rm4_1 l Z a0 hw [] b73 ot_187 T193.heap n0 (Nat.le_trans q194 K193.1) G193_11 (by omega)) rfl (a := b73) G193_0 f0_124 (argsL := []) (rest := []) rfl rfl (lenOf pd_5 rfl) rfl (W := 0) (Nat.le_of_eq rfl) (by decide) (by decide) (by decide) (by decide) ?_
          intro v195 T195 L195 X195 q195
          obtain ⟨rfl, Nq195, eq195⟩ := q195
          have N195 := Fr.app N193 Nq195
          show Go p e below s _ _ _ T195 (mkF m 127 #[.val (.int y1), .val (.int y2), .val (.int q0), .val (.int q1), .val (.int q2), .val (.int (3 : Int32)), .val (.int (2 : Int32)), .val (.ref b73), .val (.int (1 : Int32)), .val (.int (0 : Int32)), .unset] [(.int (0 : Int32))])
          refine wistore C X195 f0_127 #[.val (.int y1), .val (.int y2), .val (.int q0), .val (.int q1), .val (.int q2), .val (.int (3 : Int32)), .val (.int (2 : Int32)), .val (.ref b73), .val (.int (1 : Int32)), .val (.int (0 : Int32)), .val (.int (0 : Int32))] rfl ?_
          refine wiload C X195 f0_129 rfl ?_
          refine wif_eq C X195 f0_131 (fun q => absurd q (by decide : ¬ ((1 : Int32) = (0 : Int32)))) ?_
          intro _
          refine wiload C X195 f0_134 rfl ?_
          refine wiload C X195 f0_136 rfl ?_
          refine wif_ne C X195 f0_138 (fun q => absurd q (by decide : ¬ ((3 : Int32) = (0 : Int32)))) ?_
          intro _
          refine wiconst C X195 f0_145 (0 : Int32) rfl ?_
          refine wicmp_ne C X195 f0_146 ?_ (fun q => absurd (by decide : ((0 : Int32) = (0 : Int32))) q)
          intro _
          refine wiload C X195 f0_149 rfl ?_
          refine wiload C X195 f0_151 rfl ?_
          refine wiload C X195 f0_153 rfl ?_
          refine wicmp_ne C X195 f0_155 (fun q => absurd q (by decide : ¬ ((2 : Int32) = (3 : Int32)))) ?_
          intro _
          refine wiconst C X195 f0_162 (0 : Int32) rfl ?_
          refine wicmp_ne C X195 f0_163 ?_ (fun q => absurd (by decide : ((0 : Int32) = (0 : Int32))) q)
          intro _
          refine wiconst C X195 f0_166 (1 : Int32) rfl ?_
          refine wgoto C X195 f0_167 ?_
          refine wiretN C X195 (t := .boolean) (by simp) f0_171 rfl (1 : Int32) (by decide) (by decide) (by decide) ?_
          rw [eq195]
          exact ⟨rfl, N195⟩
        · refine wiload C X177 f0_86 rfl ?_
          refine wiconst C X177 f0_88 (1 : Int32) rfl ?_
          refine wicmp_lt C X177 f0_89 (fun q => absurd q (by decide : ¬ ((3 : Int32) < (1 : Int32)))) ?_
          intro _
          refine waload C X177 f0_92 rfl rfl ?_
          have ne197 : b73 ≠ ro_74 := (Nat.ne_of_lt (Nat.lt_of_lt_of_le A73.lt G74_8))
          have q198 := (((G74_75.keep K76 (ninS (Ne.symm G74_17) (ninS (Ne.symm G74_25) (ninS (Ne.symm G74_32) (ninS (Ne.symm G74_47) (ninS (Ne.symm G74_50) (ninS (Ne.symm G74_52) (ninS (Ne.symm G74_43) (ninS (Ne.symm G74_38) (ninS (Ne.symm ne197) nin0)))))))))).keep K86 (ninS (Ne.symm G74_17) (ninS (Ne.symm G74_25) (ninS (Ne.symm G74_32) (ninS (Ne.symm G74_47) (ninS (Ne.symm G74_50) (ninS (Ne.symm G74_52) (ninS (Ne.symm G74_43) (ninS (Ne.symm G74_38) (ninS (Ne.symm ne197) nin0)))))))))).keep K147 (ninS (Ne.symm G74_17) (ninS (Ne.symm G74_25) (ninS (Ne.symm G74_32) (ninS (Ne.symm G74_47) (ninS (Ne.symm G74_50) (ninS (Ne.symm G74_52) (ninS (Ne.symm G74_43) (ninS (Ne.symm G74_38) (ninS (Ne.symm ne197) nin0))))))))))
          have ne199 : b73 ≠ rd_74 := (Nat.ne_of_lt (Nat.lt_of_lt_of_le A73.lt G74_9))
          have q200 := (((G74_76.keep K76 (ninS (Ne.symm G74_18) (ninS (Ne.symm G74_26) (ninS (Ne.symm G74_33) (ninS (Ne.symm G74_48) (ninS (Ne.symm G74_51) (ninS (Ne.symm G74_53) (ninS (Ne.symm G74_44) (ninS (Ne.symm G74_39) (ninS (Ne.symm ne199) nin0)))))))))).keep K86 (ninS (Ne.symm G74_18) (ninS (Ne.symm G74_26) (ninS (Ne.symm G74_33) (ninS (Ne.symm G74_48) (ninS (Ne.symm G74_51) (ninS (Ne.symm G74_53) (ninS (Ne.symm G74_44) (ninS (Ne.symm G74_39) (ninS (Ne.symm ne199) nin0)))))))))).keep K147 (ninS (Ne.symm G74_18) (ninS (Ne.symm G74_26) (ninS (Ne.symm G74_33) (ninS (Ne.symm G74_48) (ninS (Ne.symm G74_51) (ninS (Ne.symm G74_53) (ninS (Ne.symm G74_44) (ninS (Ne.symm G74_39) (ninS (Ne.symm ne199) nin0))))))))))
          refine wvirtual C X177 (y := (⟨"com/example/hornwork/hornwork/FibonacciHeap", "removeLeast", "()I"⟩ : MethodName)) (z := (⟨"com/example/hornwork/hornwork/FibonacciHeap", "removeLeast", "()I"⟩ : MethodName)) (tw_61 hw) (tw_62 hw) (notFace_of_selects (args := #[]) (mvT C.2.1 (tw_64 hw))) (tw_64 hw) (tw_63 hw) (tw_65 hw) (tw_3 hw) (by decide) (rm9_C l Z a0 hw [] b73 ky_74 pa_74 ch_74 le_74 ri_74 de_74 mk_74 co_74 ro_74 rd_74 kri_74 kle_74 kch_74 kpa_74 kco_74 kde_74 kmk_74 kro_74 krd_74 kky_74 (own_upd (own_upd (own_upd (own_upd (own_upd (own_upd (own_upd (fun _ => 0) 0 0) 1 1) 0 1) 1 0) 2 2) 0 2) 2 1) (own_upd (own_upd (own_upd (own_upd (own_upd (own_upd (own_upd (fun _ => 0) 0 0) 1 1) 1 0) 0 1) 2 2) 2 0) 1 2) (own_upd (own_upd (own_upd (fun _ => 0) 0 (-1)) 1 (-1)) 2 (-1)) (own_upd (own_upd (own_upd (fun _ => 0) 0 (-1)) 1 (-1)) 2 (-1)) (own_upd (own_upd (own_upd (fun _ => 0) 0 1) 1 1) 2 1) (own_upd (own_upd (own_upd (fun _ => 0) 0 0) 1 0) 2 0) (own_upd (own_upd (own_upd (fun _ => 0) 0 0) 1 0) 2 0) (fun _ => 0) RD_74 (own_updD (own_updD (own_updD (fun _ => 0) 0 (FP.i2d q0)) 1 (FP.i2d q1)) 2 (FP.i2d q2)) 0 2 1 (own_upd (own_upd (own_upd (fun _ => 0) 0 q0.toInt) 1 q1.toInt) 2 q2.toInt) T147.heap n0 (Nat.le_trans (Nat.le_trans q87 K86.1) K147.1) G147_0 G147_1 G147_2 G147_3 G147_4 G147_5 G147_6 G147_7 G147_8 G147_9 G147_10 G147_11 G147_18 G147_19 G147_14 G147_13 G147_17 G147_15 G147_16 q198 q200 G147_12 (Nat.le_trans Z0 sz73) (Nat.le_trans Z0 szG74_4) (Nat.le_trans Z0 szG74_3) (Nat.le_trans Z0 szG74_2) (Nat.le_trans Z0 szG74_1) (Nat.le_trans Z0 szG74_7) (Nat.le_trans Z0 szG74_5) (Nat.le_trans Z0 szG74_6) (Nat.le_trans Z0 szG74_8) (Nat.le_trans Z0 szG74_9) (by omega) (by omega) (by omega) (by omega) (by omega) (by omega) (own_hK (own_hK (own_hK own_hK0 (own_i2d q0)) (own_i2d q1)) (own_i2d q2)) ((own_un (by decide)).trans ((own_un (by decide)).trans (own_us _ _ _))) (own_us _ _ _) ((own_un (by decide)).trans (own_us _ _ _)) ((own_un (by decide)).trans (own_us _ _ _)) (own_us _ _ _) ((own_un (by decide)).trans ((own_un (by decide)).trans ((own_un (by decide)).trans (own_us _ _ _)))) (own_us _ _ _) (own_us _ _ _) ((own_un (by decide)).trans (own_us _ _ _)) (G74_77 0 (by decide)) (G74_77 1 (by decide)) ne84 G74_34 ne83 G74_27 G74_28 (Ne.symm G74_20) G74_21 (Ne.symm G74_35) (Ne.symm G74_40) G74_36 (Ne.symm G74_41) G74_38 G74_43 G74_39 (Ne.symm G74_44) G74_12 G74_13 ne197 G74_47 (Ne.symm G74_54) ne199 G74_48 G74_17 G74_18 G74_32 G74_33 G74_25 G74_26 G74_50 G74_51 ne79 (Ne.symm G74_19) ne78 G74_29 (Ne.symm G74_22) ne80 G74_30 (Ne.symm G74_23) G74_45 ne81 (Ne.symm G74_37) (Ne.symm G74_42) ne82 G74_53 G74_52 (Ne.symm G74_49) (Ne.symm G74_46) (Ne.symm G74_24) G74_31) eq177 (a := b73) G147_0 f0_94 (argsL := []) (rest := []) rfl rfl (lenOf pd_7 rfl) rfl (W := 0) (Nat.le_of_eq rfl) (by decide) (by decide) (by decide) (by decide) ?_
          intro v196 T196 L196 X196 q196
          obtain ⟨tp_196, ot_196, rfl, Nq196, K196, G196_0, G196_1, G196_2, G196_3, G196_4, G196_5, G196_6, G196_7, G196_8, G196_9, G196_10, G196_11, G196_12, G196_13, G196_14, G196_15, G196_16, G196_17, G196_18, G196_19, G196_20, G196_21⟩ := q196
          have q201 := (Nat.le_trans (Nat.le_trans (Nat.le_trans q85 K76.1) K86.1) K147.1)
          have N196 := Fr.app N177 Nq196
          show Go p e below s _ _ _ T196 (mkF m 97 #[.val (.int y1), .val (.int y2), .val (.int q0), .val (.int q1), .val (.int q2), .val (.int (3 : Int32)), .val (.int (3 : Int32)), .val (.ref b73), .val (.int (1 : Int32)), .val (.int (0 : Int32)), .unset] [(.int (Int32.ofInt 0))])
          have htp : tp_196 < 3 ∧ ot_196 < 3 ∧ tp_196 ≠ ot_196 ∧ tp_196 ≠ 0 ∧ ot_196 ≠ 0 := by rcases G196_21 with ⟨z1, z2, -⟩ | ⟨z1, z2, -⟩ <;> omega
          refine wpop C X196 f0_97 rfl ?_
          refine wiload C X196 f0_98 rfl ?_
          refine wiconst C X196 f0_100 (2 : Int32) rfl ?_
          refine wicmp_lt C X196 f0_101 (fun q => absurd q (by decide : ¬ ((3 : Int32) < (2 : Int32)))) ?_
          intro _
          refine waload C X196 f0_104 rfl rfl ?_
          have q203 := (Nat.le_trans (Nat.le_trans (Nat.le_trans q87 K86.1) K147.1) K196.1)
          refine wvirtual C X196 (y := (⟨"com/example/hornwork/hornwork/FibonacciHeap", "removeLeast", "()I"⟩ : MethodName)) (z := (⟨"com/example/hornwork/hornwork/FibonacciHeap", "removeLeast", "()I"⟩ : MethodName)) (tw_61 hw) (tw_62 hw) (notFace_of_selects (args := #[]) (mvT C.2.1 (tw_64 hw))) (tw_64 hw) (tw_63 hw) (tw_65 hw) (tw_3 hw) (by decide) (rm9_D l Z a0 hw [] b73 ky_74 pa_74 ch_74 le_74 ri_74 de_74 mk_74 co_74 ro_74 rd_74 kri_74 kle_74 kch_74 kpa_74 kco_74 kde_74 kro_74 krd_74 (own_upd (own_upd (own_upd (own_upd (own_upd (own_upd (own_upd (own_upd (own_upd (own_upd (own_upd (fun _ => 0) 0 0) 1 1) 0 1) 1 0) 2 2) 0 2) 2 1) 1 2) 0 0) tp_196 tp_196) ot_196 ot_196) (own_upd (own_upd (own_upd (own_upd (own_upd (own_upd (own_upd (own_upd (own_upd (own_upd (own_upd (fun _ => 0) 0 0) 1 1) 1 0) 0 1) 2 2) 2 0) 1 2) 2 1) 0 0) tp_196 tp_196) ot_196 ot_196) (own_upd (own_upd (own_upd (own_upd (own_upd (fun _ => 0) 0 (-1)) 1 (-1)) 2 (-1)) tp_196 ot_196) 0 (-1)) (own_upd (own_upd (own_upd (own_upd (fun _ => 0) 0 (-1)) 1 (-1)) 2 (-1)) ot_196 tp_196) (own_upd (own_upd (own_upd (own_upd (fun _ => 0) 0 1) 1 1) 2 1) 0 0) (own_upd (own_upd (own_upd (own_upd (fun _ => 0) 0 0) 1 0) 2 0) tp_196 1) (own_upd (own_upd (fun _ => 0) 0 2) 1 1) (own_upd (own_upd (own_upd (own_upd (own_upd RD_74 0 2) 0 (-1)) 1 tp_196) 0 (-1)) 1 (-1)) tp_196 ot_196 T196.heap n0 q203 G196_0 G196_1 G196_2 G196_3 G196_4 G196_5 G196_6 G196_7 G196_8 G196_9 G196_10 G196_11 G196_12 G196_13 G196_14 G196_15 G196_16 G196_17 G196_19 G196_20 (Nat.le_trans Z0 sz73) (Nat.le_trans Z0 szG74_4) (Nat.le_trans Z0 szG74_3) (Nat.le_trans Z0 szG74_2) (Nat.le_trans Z0 szG74_1) (Nat.le_trans Z0 szG74_7) (Nat.le_trans Z0 szG74_5) (Nat.le_trans Z0 szG74_8) (Nat.le_trans Z0 szG74_9) (by omega) (by omega) (by omega) ((own_un (by omega)).trans (own_us _ _ _)) ((own_un (by omega)).trans (own_us _ _ _)) (own_us _ _ _) (own_us _ _ _) (G196_21.elim (fun z => by obtain ⟨rfl, rfl, -⟩ := z; first | rfl | exact (own_un (by decide)).trans (own_us _ _ _)) (fun z => by obtain ⟨rfl, rfl, -⟩ := z; first | rfl | exact (own_un (by decide)).trans ((own_un (by decide)).trans (own_us _ _ _)))) ((own_un (by decide)).trans (own_us _ _ _)) ne78 G74_21 (Ne.symm G74_20) ne84 G74_34 ne83 (Ne.symm G74_22) (Ne.symm G74_35) (Ne.symm G74_40) G74_25 G74_38 G74_43 G74_26 G74_39 (Ne.symm G74_44) ne197 G74_47 (Ne.symm G74_54) ne199 (Ne.symm G74_24) (Ne.symm G74_37) (Ne.symm G74_42) ne82 G74_53 G74_52 (Ne.symm G74_19) G74_27 G74_28 ne79 G74_33 G74_32 G74_31) rfl (a := b73) G196_0 f0_106 (argsL := []) (rest := []) rfl rfl (lenOf pd_7 rfl) rfl (W := 0) (Nat.le_of_eq rfl) (by decide) (by decide) (by decide) (by decide) ?_
          intro v202 T202 L202 X202 q202
          obtain ⟨rfl, Nq202, K202, G202_0, G202_1, G202_2, G202_3, G202_4, G202_5, G202_6, G202_7, G202_8, G202_9, G202_10, G202_11, G202_12, G202_13, G202_14, G202_15, G202_16, G202_17, G202_18⟩ := q202
          have N202 := Fr.app N196 Nq202
          show Go p e below s _ _ _ T202 (mkF m 109 #[.val (.int y1), .val (.int y2), .val (.int q0), .val (.int q1), .val (.int q2), .val (.int (3 : Int32)), .val (.int (3 : Int32)), .val (.ref b73), .val (.int (1 : Int32)), .val (.int (0 : Int32)), .unset] [(.int (Int32.ofInt tp_196))])
          refine wpop C X202 f0_109 rfl ?_
          refine wiload C X202 f0_110 rfl ?_
          refine wiconst C X202 f0_112 (3 : Int32) rfl ?_
          refine wicmp_lt C X202 f0_113 (fun q => absurd q (by decide : ¬ ((3 : Int32) < (3 : Int32)))) ?_
          intro _
          refine waload C X202 f0_116 rfl rfl ?_
          refine wvirtual C X202 (y := (⟨"com/example/hornwork/hornwork/FibonacciHeap", "removeLeast", "()I"⟩ : MethodName)) (z := (⟨"com/example/hornwork/hornwork/FibonacciHeap", "removeLeast", "()I"⟩ : MethodName)) (tw_61 hw) (tw_62 hw) (notFace_of_selects (args := #[]) (mvT C.2.1 (tw_64 hw))) (tw_64 hw) (tw_63 hw) (tw_65 hw) (tw_3 hw) (by decide) (rm9_A l Z a0 hw [] b73 ky_74 pa_74 ch_74 le_74 ri_74 de_74 mk_74 co_74 ro_74 rd_74 kri_74 kch_74 kco_74 (own_upd (own_upd (own_upd (own_upd (own_upd (own_upd (own_upd (own_upd (own_upd (own_upd (own_upd (own_upd (own_upd (own_upd (own_upd (fun _ => 0) 0 0) 1 1) 0 1) 1 0) 2 2) 0 2) 2 1) 1 2) 0 0) tp_196 tp_196) ot_196 ot_196) tp_196 ot_196) ot_196 tp_196) ot_196 ot_196) tp_196 tp_196) (own_upd (own_upd (own_upd (own_upd (own_upd (own_upd (fun _ => 0) 0 (-1)) 1 (-1)) 2 (-1)) tp_196 ot_196) 0 (-1)) tp_196 (-1)) (own_upd (own_upd (own_upd (own_upd (own_upd (fun _ => 0) 0 1) 1 1) 2 1) 0 0) tp_196 0) ot_196 T202.heap n0 (Nat.le_trans q203 K202.1) G202_0 G202_1 G202_2 G202_3 G202_4 G202_5 G202_6 G202_7 G202_8 G202_9 G202_10 G202_11 G202_12 G202_14 G202_16 (Nat.le_trans Z0 sz73) (Nat.le_trans Z0 szG74_4) (Nat.le_trans Z0 szG74_2) (Nat.le_trans Z0 szG74_7) (by omega) (G196_21.elim (fun z => by obtain ⟨rfl, rfl, -⟩ := z; first | rfl | exact (own_un (by decide)).trans ((own_un (by decide)).trans ((own_un (by decide)).trans (own_us _ _ _)))) (fun z => by obtain ⟨rfl, rfl, -⟩ := z; first | rfl | exact (own_un (by decide)).trans ((own_un (by decide)).trans ((own_un (by decide)).trans ((own_un (by decide)).trans (own_us _ _ _)))))) ((own_un (by omega)).trans (own_us _ _ _)) ne82 ne79 G74_31) rfl (a := b73) G202_0 f0_118 (argsL := []) (rest := []) rfl rfl (lenOf pd_7 rfl) rfl (W := 0) (Nat.le_of_eq rfl) (by decide) (by decide) (by decide) (by decide) ?_
          intro v204 T204 L204 X204 q204
          obtain ⟨rfl, Nq204, K204, G204_0, G204_1, G204_2, G204_3, G204_4, G204_5, G204_6, G204_7, G204_8, G204_9, G204_10, G204_11, G204_12, G204_13⟩ := q204
          have N204 := Fr.app N202 Nq204
          show Go p e below s _ _ _ T204 (mkF m 121 #[.val (.int y1), .val (.int y2), .val (.int q0), .val (.int q1), .val (.int q2), .val (.int (3 : Int32)), .val (.int (3 : Int32)), .val (.ref b73), .val (.int (1 : Int32)), .val (.int (0 : Int32)), .unset] [(.int (Int32.ofInt ot_196))])
          refine wpop C X204 f0_121 rfl ?_
          refine waload C X204 f0_122 rfl rfl ?_
          refine wvirtual C X204 (y := (⟨"com/example/hornwork/hornwork/FibonacciHeap", "isEmpty", "()Z"⟩ : MethodName)) (z := (⟨"com/example/hornwork/hornwork/FibonacciHeap", "isEmpty", "()Z"⟩ : MethodName)) (tw_39 hw) (tw_40 hw) (notFace_of_selects (args := #[]) (mvT C.2.1 (tw_42 hw))) (tw_42 hw) (tw_41 hw) (tw_43 hw) (tw_3 hw) (by decide) (rm4_0 l Z a0 hw [] b73 T204.heap n0 (Nat.le_trans (Nat.le_trans q203 K202.1) K204.1) G204_11) rfl (a := b73) G204_0 f0_124 (argsL := []) (rest := []) rfl rfl (lenOf pd_5 rfl) rfl (W := 0) (Nat.le_of_eq rfl) (by decide) (by decide) (by decide) (by decide) ?_
          intro v205 T205 L205 X205 q205
          obtain ⟨rfl, Nq205, eq205⟩ := q205
          have N205 := Fr.app N204 Nq205
          show Go p e below s _ _ _ T205 (mkF m 127 #[.val (.int y1), .val (.int y2), .val (.int q0), .val (.int q1), .val (.int q2), .val (.int (3 : Int32)), .val (.int (3 : Int32)), .val (.ref b73), .val (.int (1 : Int32)), .val (.int (0 : Int32)), .unset] [(.int (1 : Int32))])
          refine wistore C X205 f0_127 #[.val (.int y1), .val (.int y2), .val (.int q0), .val (.int q1), .val (.int q2), .val (.int (3 : Int32)), .val (.int (3 : Int32)), .val (.ref b73), .val (.int (1 : Int32)), .val (.int (0 : Int32)), .val (.int (1 : Int32))] rfl ?_
          refine wiload C X205 f0_129 rfl ?_
          refine wif_eq C X205 f0_131 (fun q => absurd q (by decide : ¬ ((1 : Int32) = (0 : Int32)))) ?_
          intro _
          refine wiload C X205 f0_134 rfl ?_
          refine wiload C X205 f0_136 rfl ?_
          refine wif_ne C X205 f0_138 (fun q => absurd q (by decide : ¬ ((3 : Int32) = (0 : Int32)))) ?_
          intro _
          refine wiconst C X205 f0_145 (0 : Int32) rfl ?_
          refine wicmp_ne C X205 f0_146 ?_ (fun q => absurd (by decide : ((0 : Int32) = (0 : Int32))) q)
          intro _
          refine wiload C X205 f0_149 rfl ?_
          refine wiload C X205 f0_151 rfl ?_
          refine wiload C X205 f0_153 rfl ?_
          refine wicmp_ne C X205 f0_155 ?_ (fun q => absurd (by decide : ((3 : Int32) = (3 : Int32))) q)
          intro _
          refine wiconst C X205 f0_158 (1 : Int32) rfl ?_
          refine wgoto C X205 f0_159 ?_
          refine wicmp_ne C X205 f0_163 ?_ (fun q => absurd (by decide : ((1 : Int32) = (1 : Int32))) q)
          intro _
          refine wiconst C X205 f0_166 (1 : Int32) rfl ?_
          refine wgoto C X205 f0_167 ?_
          refine wiretN C X205 (t := .boolean) (by simp) f0_171 rfl (1 : Int32) (by decide) (by decide) (by decide) ?_
          rw [eq205]
          exact ⟨rfl, N205⟩
set_option maxRecDepth 65536 in
set_option maxHeartbeats 40000000 in
theorem comes_1 {Post : Tables → Env → Array Value → State → Outcome → State → Prop} (hpost : ∀ tb e args s v u, (limb_1_1.after args s (.returned v) u = true ∧ limb_1_2.after args s (.returned v) u = true ∧ True) → FrameEnd s (.returned v) u (Jvm.fieldLocs frame_1_writes args s ++ Jvm.arrayLocs frame_1_arrays args s ++ Jvm.staticLocs frame_1_statics s) 32 320 → Post tb e args s (.returned v) u) :
    ArmFor flags0 classFile x code maxLocals ret World_1 tables_1 room_1 Calls_1 rest_1 Pre_1 Post := by
  intro l hfl _ _ p e ha hc hk s m args below hf hA hF happ hP
  obtain ⟨hcalls, hrest, hpre⟩ := hP
  obtain ⟨-, -, -, hnamed, -, -, -, hat⟩ := (Spec.applies_iff hf).mp happ
  obtain ⟨hg, hn⟩ := and_e (Cond.before_iff.mp (show (Jvm.Cond.and given_1 narrow_1).before args s = true from hpre))
  obtain ⟨hg0, hr0⟩ := and_e hg
  obtain ⟨hg1, hr1⟩ := and_e hr0
  obtain ⟨hg2, hr2⟩ := and_e hr1
  obtain ⟨hg3, hr3⟩ := and_e hr2
  obtain ⟨hg4, hr4⟩ := and_e hr3
  obtain ⟨w0, w1, w2, w3, w4, rfl⟩ : ∃ w0 w1 w2 w3 w4 : Value, args = #[w0, w1, w2, w3, w4] := by
    have hs : args.size = 5 := by simpa [Cond.value, given_1] using hg0
    obtain ⟨L⟩ := args
    match L, hs with
    | [w0, w1, w2, w3, w4], _ => exact ⟨w0, w1, w2, w3, w4, rfl⟩
  have hw := fun d (hd : d ∈ tables_1) => atoms_spec (ws := Jvm.Cond.code x code maxLocals ret :: tables_1) hat d (List.mem_cons_of_mem _ hd)
  have hfit : Fit s := fun {y c} hc i hi => by
    obtain ⟨ha, rfl⟩ := Array.getElem?_eq_some_iff.mp hc
    have q := List.all_eq_true.mp ((Array.all_eq_true_iff_forall_mem.mp hF) _ (Array.getElem_mem ha)) i (List.mem_range.mpr hi)
    simpa [Array.getElem?_eq_getElem hi] using q
  obtain ⟨i0, ei0⟩ := is_v hg1
  obtain rfl : w0 = (.int i0) := Option.some.inj ei0
  obtain ⟨i1, ei1⟩ := is_v hg2
  obtain rfl : w1 = (.int i1) := Option.some.inj ei1
  obtain ⟨i2, ei2⟩ := is_v hg3
  obtain rfl : w2 = (.int i2) := Option.some.inj ei2
  obtain ⟨i3, ei3⟩ := is_v hg4
  obtain rfl : w3 = (.int i3) := Option.some.inj ei3
  obtain ⟨i4, ei4⟩ := is_v hr4
  obtain rfl : w4 = (.int i4) := Option.some.inj ei4
  obtain ⟨n, o, h1, h2, h3, _, L, rfl, ⟨rfl, N⟩, hq⟩ := rm0 l s _ hw tables_1 i0 i1 i2 i3 i4 s.heap s.heap.size (Nat.le_refl _) p e ha hc hk s m _ below hf ((Spec.applies_iff_loose hf).mp happ).1 ⟨rfl, State.Warmed39.refl s, rfl⟩ trivial
  refine ⟨n, _, h1, h2, h3, hpost _ _ _ _ _ _ ⟨Cond.after_iff.mpr rfl, Cond.after_iff.mpr (eq_i res_at (Term.int_eval (1)) rfl), trivial⟩ ⟨hq.1, hq.2.1, (hq.2.2.sift fun y hy => Or.inr (N y hy)).mono (by decide) (by decide)⟩⟩
theorem main_1_1 : Claimed_1_1 := comes_1 fun _ _ _ _ _ _ h hF => ⟨h.1, hF⟩
theorem main_1_2 : Claimed_1_2 := comes_1 fun _ _ _ _ _ _ h hF => ⟨h.2.1, hF⟩
end Jvm.Pilot.@@N@@
-- WITNESS
namespace Jvm.Pilot.@@N@@
open Jvm Jvm.ClassFile Sem Op Lib Jvm.Free Jvm.Stand Jvm.Pilot.@@N@@.Jvm.D
/-! MADE BY PROGRAM (witnessworld.py) out of the Statement's table words and the real class files: 15 classes; the members and pool entries that the words name. The judged class is class 1, her method 1. -/
namespace start1
open Jvm.ClassFile
def u (s : String) : CpInfo := .utf8 (stringToUtf16 s)
/-- a pool by its gaps: so many unusable entries, then the entry; so many at the end -/
def gap : Nat → List CpInfo → List CpInfo
  | 0, r => r
  | n + 1, r => .unusable :: gap n r
def poolList (es : List (Nat × CpInfo)) (last : Nat) : List CpInfo := es.foldr (fun e r => gap e.1 (e.2 :: r)) (gap last [])
def pool (es : List (Nat × CpInfo)) (last : Nat) : Array CpInfo := ⟨poolList es last⟩
def fileOf (pool : Array CpInfo) (this : Nat) (attrs : Array Attribute := #[]) (ms : Array MethodInfo := #[]) (fl : Nat := 33) (sup : Nat := 0) (ifs : Array Nat := #[]) (fds : Array FieldInfo := #[]) : ClassFile where
  minorVersion := 0
  majorVersion := 65
  constantPool := pool
  accessFlags := fl
  thisClass := this
  superClass := sup
  interfaces := ifs
  fields := fds
  methods := ms
  attributes := attrs
def plain (name : String) (sup : Option ClassId) : Class where
  name := name
  kind := .ordinary
  loader := none
  accessFlags := 33
  super := sup
  interfaces := #[]
  cf := none
  fields := #[]
  methods := #[]
  instanceTypes := #[]
  staticTypes := #[]
  resolved := #[]
  callSites := []
  init := .initialized
  statics := none
  mirror := none

def pool0 : Array CpInfo := pool [(5, u "<init>"), (0, u "()V"), (1, .class_ 10), (1, u "java/lang/Object")] 113

def k0c0 : Code := { maxStack := 0, maxLocals := 1, code := object_method_1_code, exceptionTable := #[], attributes := #[] }
def k0m0 : Method := { name := "<init>", desc := "()V", sig := { parameters := [], returnType := none }, accessFlags := 1, code := some k0c0 }
/-- java/lang/Object -/
def k0 : Class := { plain "java/lang/Object" none with
  accessFlags := 33
  interfaces := #[]
  cf := some (fileOf pool0 8 #[] #[{ accessFlags := 1, nameIndex := 5, descriptorIndex := 6, attributes := #[] }] 33 0 #[] #[])
  fields := #[]
  methods := #[k0m0]
  instanceTypes := #[]
  staticTypes := #[]
  resolved := Array.replicate 124 none
  statics := none }

def pool1 : Array CpInfo := pool [(2, .class_ 4), (1, u "java/lang/Object"), (0, u "<init>"), (0, u "()V"), (0, .integer 2147483647), (0, .class_ 9), (0, u "com/example/hornwork/hornwork/FibonacciHeap"), (0, .methodref 8 11), (0, .nameAndType 5 12), (0, u "(I)V"), (0, .methodref 8 14), (0, .nameAndType 15 16), (0, u "isEmpty"), (0, u "()Z"), (0, .methodref 8 18), (0, .nameAndType 19 20), (0, u "insert"), (0, u "(ID)V"), (0, .methodref 8 22), (0, .nameAndType 23 24), (0, u "removeLeast"), (0, u "()I"), (0, .class_ 26), (0, u "com/example/hornwork/hornwork/FibonacciHeapIsEmptyPinLaw"), (2, u "law"), (0, u "(IIIII)Z")] 3

def k1m0 : Method := { name := "<init>", desc := "()V", sig := { parameters := [], returnType := none }, accessFlags := 1, code := none }
def k1c1 : Code := { maxStack := 4, maxLocals := 11, code := code, exceptionTable := #[], attributes := #[] }
def k1m1 : Method := { name := "law", desc := "(IIIII)Z", sig := { parameters := [.int, .int, .int, .int, .int], returnType := some .boolean }, accessFlags := 9, code := some k1c1 }
/-- com/example/hornwork/hornwork/FibonacciHeapIsEmptyPinLaw -/
def k1 : Class := { plain "com/example/hornwork/hornwork/FibonacciHeapIsEmptyPinLaw" (some 0) with
  accessFlags := 49
  interfaces := #[]
  cf := some (fileOf pool1 25 #[] #[{ accessFlags := 1, nameIndex := 5, descriptorIndex := 6, attributes := #[] }, { accessFlags := 9, nameIndex := 29, descriptorIndex := 30, attributes := #[] }] 49 2 #[] #[])
  fields := #[]
  methods := #[k1m0, k1m1]
  instanceTypes := #[]
  staticTypes := #[]
  resolved := Array.replicate 34 none
  statics := none }

def pool2 : Array CpInfo := pool [(1, .methodref 2 3), (0, .class_ 4), (0, .nameAndType 5 6), (0, u "java/lang/Object"), (0, u "<init>"), (0, u "()V"), (0, .class_ 8), (0, u "com/example/hornwork/hornwork/FibonacciHeap"), (0, .fieldref 7 10), (0, .nameAndType 11 12), (0, u "rootOfDegree"), (0, u "[I"), (0, .fieldref 7 14), (0, .nameAndType 15 16), (0, u "least"), (0, u "I"), (0, .fieldref 7 18), (0, .nameAndType 19 20), (0, u "key"), (0, u "[D"), (0, .fieldref 7 22), (0, .nameAndType 23 12), (0, u "parent"), (0, .fieldref 7 25), (0, .nameAndType 26 12), (0, u "child"), (0, .fieldref 7 28), (0, .nameAndType 29 12), (0, u "left"), (0, .fieldref 7 31), (0, .nameAndType 32 12), (0, u "right"), (0, .fieldref 7 34), (0, .nameAndType 35 12), (0, u "degree"), (0, .fieldref 7 37), (0, .nameAndType 38 39), (0, u "marked"), (0, u "[Z"), (0, .fieldref 7 41), (0, .nameAndType 42 39), (0, u "contained"), (0, .fieldref 7 44), (0, .nameAndType 45 12), (0, u "roots"), (0, .methodref 47 48), (0, .class_ 49), (0, .nameAndType 50 51), (0, u "java/util/Arrays"), (0, u "fill"), (0, u "([II)V"), (0, .methodref 7 53), (0, .nameAndType 54 55), (0, u "addRoot"), (0, u "(I)V"), (2, u "$assertionsDisabled"), (0, u "Z"), (3, .methodref 7 64), (0, .nameAndType 65 66), (0, u "before"), (0, u "(II)Z"), (3, u "(II)V"), (3, .methodref 7 75), (0, .nameAndType 76 70), (0, u "splice"), (0, .methodref 7 78), (0, .nameAndType 79 55), (0, u "unlink"), (0, .methodref 7 81), (0, .nameAndType 82 55), (0, u "consolidate"), (0, .methodref 7 84), (0, .nameAndType 85 70), (0, u "link"), (0, .methodref 87 88), (0, .class_ 89), (0, .nameAndType 90 91), (0, u "java/lang/Math"), (0, u "max"), (0, u "(II)I"), (5, u "()Z"), (0, u "NONE"), (2, u "MAX_DEGREE"), (3, u "isEmpty"), (4, u "insert"), (0, u "(ID)V"), (1, u "removeLeast"), (0, u "()I")] 3

def k2c0 : Code := { maxStack := 2, maxLocals := 2, code := prog_25_method_1_code, exceptionTable := #[], attributes := #[] }
def k2m0 : Method := { name := "<init>", desc := "(I)V", sig := { parameters := [.int], returnType := none }, accessFlags := 0, code := some k2c0 }
def k2c1 : Code := { maxStack := 2, maxLocals := 1, code := prog_25_method_2_code, exceptionTable := #[], attributes := #[] }
def k2m1 : Method := { name := "isEmpty", desc := "()Z", sig := { parameters := [], returnType := some .boolean }, accessFlags := 0, code := some k2c1 }
def k2c2 : Code := { maxStack := 4, maxLocals := 4, code := prog_25_method_5_code, exceptionTable := #[], attributes := #[] }
def k2m2 : Method := { name := "insert", desc := "(ID)V", sig := { parameters := [.int, .double], returnType := none }, accessFlags := 0, code := some k2c2 }
def k2c3 : Code := { maxStack := 3, maxLocals := 4, code := prog_25_method_7_code, exceptionTable := #[], attributes := #[] }
def k2m3 : Method := { name := "removeLeast", desc := "()I", sig := { parameters := [], returnType := some .int }, accessFlags := 0, code := some k2c3 }
def k2c4 : Code := { maxStack := 4, maxLocals := 3, code := prog_25_method_8_code, exceptionTable := #[], attributes := #[] }
def k2m4 : Method := { name := "before", desc := "(II)Z", sig := { parameters := [.int, .int], returnType := some .boolean }, accessFlags := 2, code := some k2c4 }
def k2c5 : Code := { maxStack := 3, maxLocals := 2, code := prog_25_method_9_code, exceptionTable := #[], attributes := #[] }
def k2m5 : Method := { name := "addRoot", desc := "(I)V", sig := { parameters := [.int], returnType := none }, accessFlags := 2, code := some k2c5 }
def k2c6 : Code := { maxStack := 3, maxLocals := 5, code := prog_25_method_10_code, exceptionTable := #[], attributes := #[] }
def k2m6 : Method := { name := "splice", desc := "(II)V", sig := { parameters := [.int, .int], returnType := none }, accessFlags := 2, code := some k2c6 }
def k2c7 : Code := { maxStack := 4, maxLocals := 2, code := prog_25_method_11_code, exceptionTable := #[], attributes := #[] }
def k2m7 : Method := { name := "unlink", desc := "(I)V", sig := { parameters := [.int], returnType := none }, accessFlags := 2, code := some k2c7 }
def k2c8 : Code := { maxStack := 3, maxLocals := 10, code := prog_25_method_14_code, exceptionTable := #[], attributes := #[] }
def k2m8 : Method := { name := "consolidate", desc := "(I)V", sig := { parameters := [.int], returnType := none }, accessFlags := 2, code := some k2c8 }
def k2c9 : Code := { maxStack := 4, maxLocals := 3, code := prog_25_method_15_code, exceptionTable := #[], attributes := #[] }
def k2m9 : Method := { name := "link", desc := "(II)V", sig := { parameters := [.int, .int], returnType := none }, accessFlags := 2, code := some k2c9 }
/-- com/example/hornwork/hornwork/FibonacciHeap -/
def k2 : Class := { plain "com/example/hornwork/hornwork/FibonacciHeap" (some 0) with
  accessFlags := 48
  interfaces := #[]
  cf := some (fileOf pool2 7 #[] #[{ accessFlags := 0, nameIndex := 5, descriptorIndex := 55, attributes := #[] }, { accessFlags := 0, nameIndex := 105, descriptorIndex := 97, attributes := #[] }, { accessFlags := 0, nameIndex := 110, descriptorIndex := 111, attributes := #[] }, { accessFlags := 0, nameIndex := 113, descriptorIndex := 114, attributes := #[] }, { accessFlags := 2, nameIndex := 65, descriptorIndex := 66, attributes := #[] }, { accessFlags := 2, nameIndex := 54, descriptorIndex := 55, attributes := #[] }, { accessFlags := 2, nameIndex := 76, descriptorIndex := 70, attributes := #[] }, { accessFlags := 2, nameIndex := 79, descriptorIndex := 55, attributes := #[] }, { accessFlags := 2, nameIndex := 82, descriptorIndex := 55, attributes := #[] }, { accessFlags := 2, nameIndex := 85, descriptorIndex := 70, attributes := #[] }] 48 2 #[] #[{ accessFlags := 26, nameIndex := 98, descriptorIndex := 16, attributes := #[] }, { accessFlags := 26, nameIndex := 101, descriptorIndex := 16, attributes := #[] }, { accessFlags := 18, nameIndex := 19, descriptorIndex := 20, attributes := #[] }, { accessFlags := 18, nameIndex := 23, descriptorIndex := 12, attributes := #[] }, { accessFlags := 18, nameIndex := 26, descriptorIndex := 12, attributes := #[] }, { accessFlags := 18, nameIndex := 29, descriptorIndex := 12, attributes := #[] }, { accessFlags := 18, nameIndex := 32, descriptorIndex := 12, attributes := #[] }, { accessFlags := 18, nameIndex := 35, descriptorIndex := 12, attributes := #[] }, { accessFlags := 18, nameIndex := 38, descriptorIndex := 39, attributes := #[] }, { accessFlags := 18, nameIndex := 42, descriptorIndex := 39, attributes := #[] }, { accessFlags := 18, nameIndex := 45, descriptorIndex := 12, attributes := #[] }, { accessFlags := 18, nameIndex := 11, descriptorIndex := 12, attributes := #[] }, { accessFlags := 2, nameIndex := 15, descriptorIndex := 16, attributes := #[] }, { accessFlags := 4120, nameIndex := 58, descriptorIndex := 59, attributes := #[] }])
  fields := #[{ name := "NONE", type := .int, accessFlags := 26, slot := 0, constantValue := 0 }, { name := "MAX_DEGREE", type := .int, accessFlags := 26, slot := 1, constantValue := 0 }, { name := "key", type := (.array .double), accessFlags := 18, slot := 0, constantValue := 0 }, { name := "parent", type := (.array .int), accessFlags := 18, slot := 1, constantValue := 0 }, { name := "child", type := (.array .int), accessFlags := 18, slot := 2, constantValue := 0 }, { name := "left", type := (.array .int), accessFlags := 18, slot := 3, constantValue := 0 }, { name := "right", type := (.array .int), accessFlags := 18, slot := 4, constantValue := 0 }, { name := "degree", type := (.array .int), accessFlags := 18, slot := 5, constantValue := 0 }, { name := "marked", type := (.array .boolean), accessFlags := 18, slot := 6, constantValue := 0 }, { name := "contained", type := (.array .boolean), accessFlags := 18, slot := 7, constantValue := 0 }, { name := "roots", type := (.array .int), accessFlags := 18, slot := 8, constantValue := 0 }, { name := "rootOfDegree", type := (.array .int), accessFlags := 18, slot := 9, constantValue := 0 }, { name := "least", type := .int, accessFlags := 2, slot := 10, constantValue := 0 }, { name := "$assertionsDisabled", type := .boolean, accessFlags := 4120, slot := 2, constantValue := 0 }]
  methods := #[k2m0, k2m1, k2m2, k2m3, k2m4, k2m5, k2m6, k2m7, k2m8, k2m9]
  instanceTypes := #[(.array .double), (.array .int), (.array .int), (.array .int), (.array .int), (.array .int), (.array .boolean), (.array .boolean), (.array .int), (.array .int), .int]
  staticTypes := #[.int, .int, .boolean]
  resolved := Array.replicate 118 none
  statics := none }

def pool3 : Array CpInfo := pool [(2, .class_ 4), (1, u "java/lang/Object"), (0, u "<init>"), (0, u "()V"), (7, .class_ 16), (1, u "java/util/Arrays"), (57, .class_ 76), (1, u "java/util/Arrays$NaturalOrder"), (36, .class_ 115), (1, u "java/util/Arrays$LegacyMergeSort"), (1, u "Z"), (257, .class_ 376), (0, u "java/util/Arrays$ArrayList"), (68, u "$assertionsDisabled"), (269, u "MIN_ARRAY_SORT_GRAN"), (0, u "I"), (2, u "INSERTIONSORT_THRESHOLD"), (120, u "fill"), (4, u "([II)V"), (129, .class_ 976), (0, u "java/util/Arrays$ArrayItr")] 52

def k3m0 : Method := { name := "<init>", desc := "()V", sig := { parameters := [], returnType := none }, accessFlags := 2, code := none }
def k3c1 : Code := { maxStack := 3, maxLocals := 4, code := jdk_65_method_103_code, exceptionTable := #[], attributes := #[] }
def k3m1 : Method := { name := "fill", desc := "([II)V", sig := { parameters := [(.array .int), .int], returnType := none }, accessFlags := 9, code := some k3c1 }
/-- java/util/Arrays -/
def k3 : Class := { plain "java/util/Arrays" (some 0) with
  accessFlags := 49
  interfaces := #[]
  cf := some (fileOf pool3 14 #[.nestMembers #[975, 375, 113, 74]] #[{ accessFlags := 2, nameIndex := 5, descriptorIndex := 6, attributes := #[] }, { accessFlags := 9, nameIndex := 840, descriptorIndex := 845, attributes := #[] }] 49 2 #[] #[{ accessFlags := 26, nameIndex := 715, descriptorIndex := 716, attributes := #[] }, { accessFlags := 26, nameIndex := 719, descriptorIndex := 716, attributes := #[] }, { accessFlags := 4120, nameIndex := 445, descriptorIndex := 117, attributes := #[] }])
  fields := #[{ name := "MIN_ARRAY_SORT_GRAN", type := .int, accessFlags := 26, slot := 0, constantValue := 0 }, { name := "INSERTIONSORT_THRESHOLD", type := .int, accessFlags := 26, slot := 1, constantValue := 0 }, { name := "$assertionsDisabled", type := .boolean, accessFlags := 4120, slot := 2, constantValue := 0 }]
  methods := #[k3m0, k3m1]
  instanceTypes := #[]
  staticTypes := #[.int, .int, .boolean]
  resolved := Array.replicate 1029 none
  statics := none }

def pool4 : Array CpInfo := pool [(1, .class_ 2), (0, u "java/lang/Math"), (1, .class_ 6), (1, u "java/lang/Object"), (0, u "<init>"), (0, u "()V"), (89, .class_ 100), (1, u "java/lang/Math$RandomNumberGeneratorHolder"), (71, u "negativeZeroFloatBits"), (0, u "J"), (2, u "negativeZeroDoubleBits"), (21, u "max"), (46, u "$assertionsDisabled"), (0, u "Z"), (88, u "(II)I"), (2, u "twoToTheDoubleScaleDown"), (0, u "D"), (4, u "twoToTheDoubleScaleUp"), (9, u "E"), (3, u "PI"), (2, u "TAU"), (2, u "DEGREES_TO_RADIANS"), (0, u "RADIANS_TO_DEGREES")] 94

def k4m0 : Method := { name := "<init>", desc := "()V", sig := { parameters := [], returnType := none }, accessFlags := 2, code := none }
def k4c1 : Code := { maxStack := 2, maxLocals := 2, code := jdk_29_method_65_code, exceptionTable := #[], attributes := #[] }
def k4m1 : Method := { name := "max", desc := "(II)I", sig := { parameters := [.int, .int], returnType := some .int }, accessFlags := 9, code := some k4c1 }
/-- java/lang/Math -/
def k4 : Class := { plain "java/lang/Math" (some 0) with
  accessFlags := 49
  interfaces := #[]
  cf := some (fileOf pool4 1 #[.nestMembers #[98]] #[{ accessFlags := 2, nameIndex := 7, descriptorIndex := 8, attributes := #[] }, { accessFlags := 9, nameIndex := 198, descriptorIndex := 335, attributes := #[] }] 49 4 #[] #[{ accessFlags := 25, nameIndex := 354, descriptorIndex := 339, attributes := #[] }, { accessFlags := 25, nameIndex := 358, descriptorIndex := 339, attributes := #[] }, { accessFlags := 25, nameIndex := 361, descriptorIndex := 339, attributes := #[] }, { accessFlags := 26, nameIndex := 364, descriptorIndex := 339, attributes := #[] }, { accessFlags := 26, nameIndex := 365, descriptorIndex := 339, attributes := #[] }, { accessFlags := 26, nameIndex := 172, descriptorIndex := 173, attributes := #[] }, { accessFlags := 26, nameIndex := 176, descriptorIndex := 173, attributes := #[] }, { accessFlags := 8, nameIndex := 344, descriptorIndex := 339, attributes := #[] }, { accessFlags := 8, nameIndex := 338, descriptorIndex := 339, attributes := #[] }, { accessFlags := 4120, nameIndex := 245, descriptorIndex := 246, attributes := #[] }])
  fields := #[{ name := "E", type := .double, accessFlags := 25, slot := 0, constantValue := 0 }, { name := "PI", type := .double, accessFlags := 25, slot := 1, constantValue := 0 }, { name := "TAU", type := .double, accessFlags := 25, slot := 2, constantValue := 0 }, { name := "DEGREES_TO_RADIANS", type := .double, accessFlags := 26, slot := 3, constantValue := 0 }, { name := "RADIANS_TO_DEGREES", type := .double, accessFlags := 26, slot := 4, constantValue := 0 }, { name := "negativeZeroFloatBits", type := .long, accessFlags := 26, slot := 5, constantValue := 0 }, { name := "negativeZeroDoubleBits", type := .long, accessFlags := 26, slot := 6, constantValue := 0 }, { name := "twoToTheDoubleScaleUp", type := .double, accessFlags := 8, slot := 7, constantValue := 0 }, { name := "twoToTheDoubleScaleDown", type := .double, accessFlags := 8, slot := 8, constantValue := 0 }, { name := "$assertionsDisabled", type := .boolean, accessFlags := 4120, slot := 9, constantValue := 0 }]
  methods := #[k4m0, k4m1]
  instanceTypes := #[]
  staticTypes := #[.double, .double, .double, .double, .double, .long, .long, .double, .double, .boolean]
  resolved := Array.replicate 460 none
  statics := none }

def pool5 : Array CpInfo := pool [(1, u "java/lang/Cloneable"), (0, .class_ 1), (0, u "java/lang/Object"), (0, .class_ 3)] 3

/-- java/lang/Cloneable -/
def k5 : Class := { plain "java/lang/Cloneable" (some 0) with
  accessFlags := 1537
  interfaces := #[]
  cf := some (fileOf pool5 2 #[] #[] 1537 4 #[] #[])
  fields := #[]
  methods := #[]
  instanceTypes := #[]
  staticTypes := #[]
  resolved := Array.replicate 8 none
  statics := none }

def pool6 : Array CpInfo := pool [(1, u "java/io/Serializable"), (0, .class_ 1), (0, u "java/lang/Object"), (0, .class_ 3)] 3

/-- java/io/Serializable -/
def k6 : Class := { plain "java/io/Serializable" (some 0) with
  accessFlags := 1537
  interfaces := #[]
  cf := some (fileOf pool6 2 #[] #[] 1537 4 #[] #[])
  fields := #[]
  methods := #[]
  instanceTypes := #[]
  staticTypes := #[]
  resolved := Array.replicate 8 none
  statics := none }

/-- the primitive boolean -/
def k7 : Class := { plain "boolean" none with kind := .primitive 'Z', accessFlags := 0x411 }
/-- [Z -/
def k8 : Class := { plain "[Z" (some 0) with kind := .array 7 .boolean, interfaces := #[5, 6], accessFlags := 1041 }

/-- the primitive byte -/
def k9 : Class := { plain "byte" none with kind := .primitive 'B', accessFlags := 0x411 }
/-- [B -/
def k10 : Class := { plain "[B" (some 0) with kind := .array 9 .byte, interfaces := #[5, 6], accessFlags := 1041 }

/-- the primitive double -/
def k11 : Class := { plain "double" none with kind := .primitive 'D', accessFlags := 0x411 }
/-- [D -/
def k12 : Class := { plain "[D" (some 0) with kind := .array 11 .double, interfaces := #[5, 6], accessFlags := 1041 }

/-- the primitive int -/
def k13 : Class := { plain "int" none with kind := .primitive 'I', accessFlags := 0x411 }
/-- [I -/
def k14 : Class := { plain "[I" (some 0) with kind := .array 13 .int, interfaces := #[5, 6], accessFlags := 1041 }

def heap : Heap := #[]
def classes : Array Class := #[k0, k1, k2, k3, k4, k5, k6, k7, k8, k9, k10, k11, k12, k13, k14]
def interned : List (Array UInt16 × Addr) := []
def slotsUsed : Nat := 0
def theMethod : MethodId := ⟨1, 1⟩
def args0 : Array Value := #[.int 5, .int 5, .int 5, .int 5, .int 5]
def aboutOver (below : List Frame) : State where
  vm := { classes := classes, interned := interned.toArray }
  heap := heap
  slotsUsed := slotsUsed
  threads := #[{ frames := .invoking theMethod args0 :: below }]
def below0 : List Frame := [.native { method := ⟨0, 0⟩, args := #[] }]
def about1 : State := aboutOver below0
def p0 : Program := .bare "" "" ""
def e0 : Env := launch0.env 0 0 0
theorem w_frames : about1.frames = Frame.invoking theMethod args0 :: below0 := rfl
set_option maxRecDepth 65536 in
theorem w_args : argsFit about1.vm theMethod args0 = true := by decide +kernel
set_option maxRecDepth 65536 in
theorem w_heap : heapFits about1 = true := by decide +kernel
set_option maxRecDepth 65536 in
theorem w_runnable : about1.curStatus? = some .runnable := by decide +kernel
set_option maxRecDepth 65536 in
theorem w_alone : about1.alone = true := by decide +kernel
set_option maxRecDepth 65536 in
theorem w_named : about1.methodNamed? x = some theMethod := by decide +kernel
set_option maxRecDepth 65536 in
theorem w_hears : about1.hears theMethod below0 = true := by decide +kernel
set_option maxRecDepth 65536 in
theorem w_ripe : about1.ripe theMethod args0 below0 = true := by decide +kernel
theorem w_running : about1.status = .running := rfl
set_option maxRecDepth 65536 in
theorem w_room : about1.hasRoom e0.platform room_1 = true :=
  launch0.hasRoom_least _ room_1 (by decide +kernel) (by decide +kernel) (by decide +kernel) (by decide +kernel) (by decide +kernel) (by decide +kernel)
theorem allAtoms_all (ts : List Jvm.Cond) (a : Array Jvm.Value) (st : Jvm.State) : (allAtoms ts).before a st = ts.all (fun c => c.before a st) := by
  induction ts with
  | nil => rfl
  | cons c t ih =>
    show (Jvm.Cond.and c (allAtoms t)).before a st = _
    rw [Jvm.Cond.before_and, ih, List.all_cons]
def words1 : List Jvm.Cond := Jvm.Cond.code x code maxLocals ret :: tables_1
/-- a 'code' word, met by the world's own term for the bytes: nothing is compared byte by byte -/
theorem code_word {y : MethodName} {bytes : ByteArray} {mx : Nat} {rt : Option FieldType} {a : Array Value} {s : State} {m : MethodId} {meth : Method} {c : Code} (h1 : s.methodNamed? y = some m) (h2 : s.vm.method? m = some meth) (h3 : meth.code = some c) (h4 : c.code = bytes)
    (h5 : (c.maxLocals == mx && c.exceptionTable.isEmpty && decide (c.maxStack ≤ mostOperands) && decide (meth.sig.returnType = rt) && !meth.locks && decide (parseMethodDescriptor y.desc = some meth.sig)) = true) : (Jvm.Cond.code y bytes mx rt).before a s = true := by
  simp only [Bool.and_eq_true, beq_iff_eq, Bool.not_eq_true', decide_eq_true_eq] at h5
  obtain ⟨⟨⟨⟨⟨g1, g2⟩, g3⟩, g4⟩, g5⟩, g6⟩ := h5
  simp [Cond.before, Cond.holds, Cond.value, h1, h2, h3, h4, g1, g2, g3, g4, g5, g6]
def isCode : Jvm.Cond → Bool
  | .code _ _ _ _ => true
  | _ => false
theorem all_split {L : List Jvm.Cond} {P : Jvm.Cond → Bool} (h1 : L.all (fun c => isCode c || P c) = true) (h2 : ∀ c ∈ L.filter isCode, P c = true) : L.all P = true := by
  refine List.all_eq_true.mpr fun c hc => ?_
  have h := List.all_eq_true.mp h1 c hc
  rcases Bool.eq_false_or_eq_true (isCode c) with hi | hi
  · exact h2 c (List.mem_filter.mpr ⟨hc, hi⟩)
  · simpa [hi] using h
set_option maxRecDepth 65536 in
theorem w_c0 : (Jvm.Cond.code x code maxLocals ret).before args0 about1 = true := code_word (m := ⟨1, 1⟩) (meth := k1m1) (c := k1c1) (by decide +kernel) rfl rfl rfl (by decide +kernel)
set_option maxRecDepth 65536 in
theorem w_c1 : (Jvm.Cond.code ({ cls := "com/example/hornwork/hornwork/FibonacciHeap", name := "<init>", desc := "(I)V" } : Jvm.MethodName) prog_25_method_1_code (2 : Nat) (Option.none : Option Jvm.ClassFile.FieldType)).before args0 about1 = true := code_word (m := ⟨2, 0⟩) (meth := k2m0) (c := k2c0) (by decide +kernel) rfl rfl rfl (by decide +kernel)
set_option maxRecDepth 65536 in
theorem w_c2 : (Jvm.Cond.code ({ cls := "java/lang/Object", name := "<init>", desc := "()V" } : Jvm.MethodName) object_method_1_code (1 : Nat) (Option.none : Option Jvm.ClassFile.FieldType)).before args0 about1 = true := code_word (m := ⟨0, 0⟩) (meth := k0m0) (c := k0c0) (by decide +kernel) rfl rfl rfl (by decide +kernel)
set_option maxRecDepth 65536 in
theorem w_c3 : (Jvm.Cond.code ({ cls := "java/util/Arrays", name := "fill", desc := "([II)V" } : Jvm.MethodName) jdk_65_method_103_code (4 : Nat) (Option.none : Option Jvm.ClassFile.FieldType)).before args0 about1 = true := code_word (m := ⟨3, 1⟩) (meth := k3m1) (c := k3c1) (by decide +kernel) rfl rfl rfl (by decide +kernel)
set_option maxRecDepth 65536 in
theorem w_c4 : (Jvm.Cond.code ({ cls := "com/example/hornwork/hornwork/FibonacciHeap", name := "isEmpty", desc := "()Z" } : Jvm.MethodName) prog_25_method_2_code (1 : Nat) (Option.some Jvm.ClassFile.FieldType.boolean)).before args0 about1 = true := code_word (m := ⟨2, 1⟩) (meth := k2m1) (c := k2c1) (by decide +kernel) rfl rfl rfl (by decide +kernel)
set_option maxRecDepth 65536 in
theorem w_c5 : (Jvm.Cond.code ({ cls := "com/example/hornwork/hornwork/FibonacciHeap", name := "insert", desc := "(ID)V" } : Jvm.MethodName) prog_25_method_5_code (4 : Nat) (Option.none : Option Jvm.ClassFile.FieldType)).before args0 about1 = true := code_word (m := ⟨2, 2⟩) (meth := k2m2) (c := k2c2) (by decide +kernel) rfl rfl rfl (by decide +kernel)
set_option maxRecDepth 65536 in
theorem w_c6 : (Jvm.Cond.code ({ cls := "com/example/hornwork/hornwork/FibonacciHeap", name := "addRoot", desc := "(I)V" } : Jvm.MethodName) prog_25_method_9_code (2 : Nat) (Option.none : Option Jvm.ClassFile.FieldType)).before args0 about1 = true := code_word (m := ⟨2, 5⟩) (meth := k2m5) (c := k2c5) (by decide +kernel) rfl rfl rfl (by decide +kernel)
set_option maxRecDepth 65536 in
theorem w_c7 : (Jvm.Cond.code ({ cls := "com/example/hornwork/hornwork/FibonacciHeap", name := "splice", desc := "(II)V" } : Jvm.MethodName) prog_25_method_10_code (5 : Nat) (Option.none : Option Jvm.ClassFile.FieldType)).before args0 about1 = true := code_word (m := ⟨2, 6⟩) (meth := k2m6) (c := k2c6) (by decide +kernel) rfl rfl rfl (by decide +kernel)
set_option maxRecDepth 65536 in
theorem w_c8 : (Jvm.Cond.code ({ cls := "com/example/hornwork/hornwork/FibonacciHeap", name := "before", desc := "(II)Z" } : Jvm.MethodName) prog_25_method_8_code (3 : Nat) (Option.some Jvm.ClassFile.FieldType.boolean)).before args0 about1 = true := code_word (m := ⟨2, 4⟩) (meth := k2m4) (c := k2c4) (by decide +kernel) rfl rfl rfl (by decide +kernel)
set_option maxRecDepth 65536 in
theorem w_c9 : (Jvm.Cond.code ({ cls := "com/example/hornwork/hornwork/FibonacciHeap", name := "removeLeast", desc := "()I" } : Jvm.MethodName) prog_25_method_7_code (4 : Nat) (Option.some Jvm.ClassFile.FieldType.int)).before args0 about1 = true := code_word (m := ⟨2, 3⟩) (meth := k2m3) (c := k2c3) (by decide +kernel) rfl rfl rfl (by decide +kernel)
set_option maxRecDepth 65536 in
theorem w_c10 : (Jvm.Cond.code ({ cls := "com/example/hornwork/hornwork/FibonacciHeap", name := "unlink", desc := "(I)V" } : Jvm.MethodName) prog_25_method_11_code (2 : Nat) (Option.none : Option Jvm.ClassFile.FieldType)).before args0 about1 = true := code_word (m := ⟨2, 7⟩) (meth := k2m7) (c := k2c7) (by decide +kernel) rfl rfl rfl (by decide +kernel)
set_option maxRecDepth 65536 in
theorem w_c11 : (Jvm.Cond.code ({ cls := "com/example/hornwork/hornwork/FibonacciHeap", name := "consolidate", desc := "(I)V" } : Jvm.MethodName) prog_25_method_14_code (10 : Nat) (Option.none : Option Jvm.ClassFile.FieldType)).before args0 about1 = true := code_word (m := ⟨2, 8⟩) (meth := k2m8) (c := k2c8) (by decide +kernel) rfl rfl rfl (by decide +kernel)
set_option maxRecDepth 65536 in
theorem w_c12 : (Jvm.Cond.code ({ cls := "java/lang/Math", name := "max", desc := "(II)I" } : Jvm.MethodName) jdk_29_method_65_code (2 : Nat) (Option.some Jvm.ClassFile.FieldType.int)).before args0 about1 = true := code_word (m := ⟨4, 1⟩) (meth := k4m1) (c := k4c1) (by decide +kernel) rfl rfl rfl (by decide +kernel)
set_option maxRecDepth 65536 in
theorem w_c13 : (Jvm.Cond.code ({ cls := "com/example/hornwork/hornwork/FibonacciHeap", name := "link", desc := "(II)V" } : Jvm.MethodName) prog_25_method_15_code (3 : Nat) (Option.none : Option Jvm.ClassFile.FieldType)).before args0 about1 = true := code_word (m := ⟨2, 9⟩) (meth := k2m9) (c := k2c9) (by decide +kernel) rfl rfl rfl (by decide +kernel)
def codes1 : List Jvm.Cond := [Jvm.Cond.code x code maxLocals ret, Jvm.Cond.code ({ cls := "com/example/hornwork/hornwork/FibonacciHeap", name := "<init>", desc := "(I)V" } : Jvm.MethodName) prog_25_method_1_code (2 : Nat) (Option.none : Option Jvm.ClassFile.FieldType), Jvm.Cond.code ({ cls := "java/lang/Object", name := "<init>", desc := "()V" } : Jvm.MethodName) object_method_1_code (1 : Nat) (Option.none : Option Jvm.ClassFile.FieldType), Jvm.Cond.code ({ cls := "java/util/Arrays", name := "fill", desc := "([II)V" } : Jvm.MethodName) jdk_65_method_103_code (4 : Nat) (Option.none : Option Jvm.ClassFile.FieldType), Jvm.Cond.code ({ cls := "com/example/hornwork/hornwork/FibonacciHeap", name := "isEmpty", desc := "()Z" } : Jvm.MethodName) prog_25_method_2_code (1 : Nat) (Option.some Jvm.ClassFile.FieldType.boolean), Jvm.Cond.code ({ cls := "com/example/hornwork/hornwork/FibonacciHeap", name := "insert", desc := "(ID)V" } : Jvm.MethodName) prog_25_method_5_code (4 : Nat) (Option.none : Option Jvm.ClassFile.FieldType), Jvm.Cond.code ({ cls := "com/example/hornwork/hornwork/FibonacciHeap", name := "addRoot", desc := "(I)V" } : Jvm.MethodName) prog_25_method_9_code (2 : Nat) (Option.none : Option Jvm.ClassFile.FieldType), Jvm.Cond.code ({ cls := "com/example/hornwork/hornwork/FibonacciHeap", name := "splice", desc := "(II)V" } : Jvm.MethodName) prog_25_method_10_code (5 : Nat) (Option.none : Option Jvm.ClassFile.FieldType), Jvm.Cond.code ({ cls := "com/example/hornwork/hornwork/FibonacciHeap", name := "before", desc := "(II)Z" } : Jvm.MethodName) prog_25_method_8_code (3 : Nat) (Option.some Jvm.ClassFile.FieldType.boolean), Jvm.Cond.code ({ cls := "com/example/hornwork/hornwork/FibonacciHeap", name := "removeLeast", desc := "()I" } : Jvm.MethodName) prog_25_method_7_code (4 : Nat) (Option.some Jvm.ClassFile.FieldType.int), Jvm.Cond.code ({ cls := "com/example/hornwork/hornwork/FibonacciHeap", name := "unlink", desc := "(I)V" } : Jvm.MethodName) prog_25_method_11_code (2 : Nat) (Option.none : Option Jvm.ClassFile.FieldType), Jvm.Cond.code ({ cls := "com/example/hornwork/hornwork/FibonacciHeap", name := "consolidate", desc := "(I)V" } : Jvm.MethodName) prog_25_method_14_code (10 : Nat) (Option.none : Option Jvm.ClassFile.FieldType), Jvm.Cond.code ({ cls := "java/lang/Math", name := "max", desc := "(II)I" } : Jvm.MethodName) jdk_29_method_65_code (2 : Nat) (Option.some Jvm.ClassFile.FieldType.int), Jvm.Cond.code ({ cls := "com/example/hornwork/hornwork/FibonacciHeap", name := "link", desc := "(II)V" } : Jvm.MethodName) prog_25_method_15_code (3 : Nat) (Option.none : Option Jvm.ClassFile.FieldType)]
set_option maxRecDepth 65536 in
theorem codes_eq : words1.filter isCode = codes1 := rfl
theorem w_codes : ∀ c ∈ words1.filter isCode, c.before args0 about1 = true := by
  rw [codes_eq]
  intro c hc
  simp only [codes1, List.mem_cons, List.not_mem_nil, or_false] at hc
  rcases hc with rfl | rfl | rfl | rfl | rfl | rfl | rfl | rfl | rfl | rfl | rfl | rfl | rfl | rfl
  · exact w_c0
  · exact w_c1
  · exact w_c2
  · exact w_c3
  · exact w_c4
  · exact w_c5
  · exact w_c6
  · exact w_c7
  · exact w_c8
  · exact w_c9
  · exact w_c10
  · exact w_c11
  · exact w_c12
  · exact w_c13
set_option maxRecDepth 65536 in
theorem w_t1 : (words1.take 24).all (fun c => isCode c || c.before args0 about1) = true := by decide +kernel
set_option maxRecDepth 65536 in
theorem w_t2 : ((words1.drop 24).take 24).all (fun c => isCode c || c.before args0 about1) = true := by decide +kernel
set_option maxRecDepth 65536 in
theorem w_t3 : (((words1.drop 24).drop 24).take 24).all (fun c => isCode c || c.before args0 about1) = true := by decide +kernel
set_option maxRecDepth 65536 in
theorem w_t4 : (((words1.drop 24).drop 24).drop 24).all (fun c => isCode c || c.before args0 about1) = true := by decide +kernel
theorem w_tables : (allAtoms (Jvm.Cond.code x code maxLocals ret :: tables_1)).before args0 about1 = true := by
  rw [allAtoms_all]
  show words1.all (fun c => c.before args0 about1) = true
  refine all_split ?_ w_codes
  rw [← List.take_append_drop 24 words1, List.all_append, w_t1, ← List.take_append_drop 24 (words1.drop 24), List.all_append, w_t2, ← List.take_append_drop 24 ((words1.drop 24).drop 24), List.all_append, w_t3, w_t4]
  rfl
set_option maxRecDepth 65536 in
theorem w_case : (Jvm.Cond.and given_1 narrow_1).before args0 about1 = true := by decide +kernel
theorem w_applies : (headSpec (Jvm.Cond.code x code maxLocals ret :: tables_1) room_1).applies x e0.platform about1 = true :=
  (Spec.applies_iff w_frames).mpr ⟨w_running, w_runnable, w_alone, w_named, w_hears, w_ripe, w_room, w_tables⟩
set_option maxRecDepth 200000 in
theorem atStart : AtStart classFile x code maxLocals ret World_1 tables_1 room_1 Calls_1 rest_1 Pre_1 launch0 p0 e0 about1 theMethod args0 below0 :=
  ⟨lists_1, trivial, launch0.admits_env _ _ _, launch0.least_env, fairChoices_fair.cas, fairChoices_fair.clock, w_frames, w_args, w_heap, w_applies, trivial, trivial, w_case⟩
end start1
theorem witness_1 : WitnessClaimed_1 := ⟨start1.p0, start1.e0, start1.about1, start1.theMethod, start1.args0, start1.below0, start1.atStart⟩
end Jvm.Pilot.@@N@@
