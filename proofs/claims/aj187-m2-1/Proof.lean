import JvmDerived
import JvmDerived.Pilot.@@N@@Statement
import JvmDerived.Pilot.@@N@@Code
set_option linter.unusedVariables false
set_option linter.unusedSimpArgs false

namespace Jvm.Pilot.@@N@@
open Jvm Jvm.ClassFile Sem Op Lib Jvm.Free Jvm.Stand Jvm.LawKit Jvm.RoadKit Bundle Jvm.Pilot.@@N@@.Jvm.D
section Kit
variable {p : Program} {l : Launch} {e : Env} {R : Room} {s : State} {m : MethodId} {args : Array Value} {below : List Frame} {meth : Method} {c : Code} {T : State} {locs : List Loc} {cells slots : Nat} {Z : State} {a0 : Array Value} {bc : ByteArray} {ml : Nat} {own nm : String} {rt : Option FieldType} {Q : Option Value → Heap → List Loc → Prop} {kC kS pc pc' : Nat} {Ls : Array Slot} {S : List Value} {h : Heap}
def Dec (b : ByteArray) (pc : Nat) (i : Instr) (n pc' : Nat) : Prop := decode b pc = .ok (i, n) ∧ pc' = pc + n
def DecJ (b : ByteArray) (pc : Nat) (i : Instr) (o : Int) (tgt nxt : Nat) : Prop := decode b pc = .ok (i, 3) ∧ 0 ≤ (pc : Int) + o ∧ ((pc : Int) + o).toNat = tgt ∧ nxt = pc + 3
def Cur (p : Program) (l : Launch) (e : Env) (s : State) (m : MethodId) (meth : Method) (c : Code) (Z : State) (bc : ByteArray) (ml : Nat) (own nm : String) (rt : Option FieldType) : Prop :=
  p.tables.exec = Jvm.exec ∧ Z.Warmed39 s.vm ∧ c.code = bc ∧ c.maxLocals = ml ∧ s.vm.findClass own = some m.cls ∧ meth.sig.returnType = rt ∧ meth.locks = false ∧ meth.name = nm
def Go (p : Program) (e : Env) (below : List Frame) (s : State) (Q : Option Value → Heap → List Loc → Prop) (kC kS : Nat) (T : State) (f : JFrame) : Prop :=
  ∃ s₂ o, Steps p.tables e below (T.setTop f) s₂ ∧ s₂.status = .running ∧ Ended s₂ below o ∧ ∃ v L, o = .returned v ∧ Q v s₂.heap L ∧ FrameEnd s o s₂ L kC kS
theorem Go.step {T T' : State} {f f' : JFrame} (st : ∀ t, Steps p.tables e below (T'.setTop f') t → Steps p.tables e below (T.setTop f) t) (g : Go p e below s Q kC kS T' f') : Go p e below s Q kC kS T f := by
  obtain ⟨s₂, o, h1, r⟩ := g; exact ⟨s₂, o, st _ h1, r⟩
theorem Go.cast {f f' : JFrame} (q : f = f') (g : Go p e below s Q kC kS T f') : Go p e below s Q kC kS T f := q ▸ g
theorem met_of {y : MethodName} {rm : Room} {as' : Array Value} {h0 : Heap} {ws : List Jvm.Cond} {bytes : ByteArray} {maxL : Nat} {ret : Option FieldType} (hpl : plainFor y = true)
    (body : ∀ {p : Program} {e : Env} {s : State} {m : MethodId} {below : List Frame} {meth : Method} {c : Code} {T : State}, Cur p l e s m meth c Z bytes maxL y.cls y.name ret → Stand p l e rm s m as' below meth c T [] 0 0 → T.heap = h0 → Go p e below s Q rm.cells rm.slots T (entryFrame m as' maxL)) :
    MetFree l y (head1 (Jvm.Cond.code y bytes maxL ret :: ws) rm) (fun a U => a = as' ∧ Z.Warmed39 U.vm ∧ U.heap = h0) (fun _ _ _ _ _ => True) (fun _ U o U' => ∃ v L, o = .returned v ∧ Q v U'.heap L ∧ FrameEnd U o U' L rm.cells rm.slots) := by
  refine MetFree.of_bodySF hpl hisR ?_
  intro p e s m args below meth c s₁ Bd hml0 hP hK
  obtain ⟨rfl, hZ, hh⟩ := hP
  exact body ⟨Bd.exec, hZ, Bd.bytes, hml0, findClass_of_methodNamed Bd.named, Bd.returns, Bd.notSynchronized, (name_of_methodNamed Bd.named Bd.method).1⟩ (Stand.of_body Bd) (by rw [← hh, Bd.state]; rfl)
theorem wiloadN (C : Cur p l e s m meth c Z bc ml own nm rt) (X : Stand p l e R s m args below meth c T locs cells slots) {k : Fin 4} {v : Int32} (hd : Dec bc pc (.iload_n k) 1 pc') (hl : Ls[k.val]? = some (.val (.int v))) (g : Go p e below s Q kC kS T (mkF m pc' Ls (.int v :: S))) : Go p e below s Q kC kS T (mkF m pc Ls S) :=
  Go.step (fun _ k => XS.iloadN X.here C.1 rfl (hb C.2.2.1 hd.1) hl k) (by rw [hd.2] at g; exact g)
theorem wiload (C : Cur p l e s m meth c Z bc ml own nm rt) (X : Stand p l e R s m args below meth c T locs cells slots) {k : Nat} {v : Int32} (hd : Dec bc pc (.iload k) 2 pc') (hl : Ls[k]? = some (.val (.int v))) (g : Go p e below s Q kC kS T (mkF m pc' Ls (.int v :: S))) : Go p e below s Q kC kS T (mkF m pc Ls S) :=
  Go.step (fun _ k => XS.iload X.here C.1 rfl (hb C.2.2.1 hd.1) hl k) (by rw [hd.2] at g; exact g)
theorem wistoreN (C : Cur p l e s m meth c Z bc ml own nm rt) (X : Stand p l e R s m args below meth c T locs cells slots) {k : Fin 4} {v : Int32} (hd : Dec bc pc (.istore_n k) 1 pc') (l' : Array Slot) (hl : storeLocals Ls k.val (.int v) = some l') (g : Go p e below s Q kC kS T (mkF m pc' l' S)) : Go p e below s Q kC kS T (mkF m pc Ls (.int v :: S)) :=
  Go.step (fun _ k => XS.istoreN X.here C.1 rfl (hb C.2.2.1 hd.1) rfl hl k) (by rw [hd.2] at g; exact g)
theorem wistore (C : Cur p l e s m meth c Z bc ml own nm rt) (X : Stand p l e R s m args below meth c T locs cells slots) {k : Nat} {v : Int32} (hd : Dec bc pc (.istore k) 2 pc') (l' : Array Slot) (hl : storeLocals Ls k (.int v) = some l') (g : Go p e below s Q kC kS T (mkF m pc' l' S)) : Go p e below s Q kC kS T (mkF m pc Ls (.int v :: S)) :=
  Go.step (fun _ k => XS.istore X.here C.1 rfl (hb C.2.2.1 hd.1) rfl hl k) (by rw [hd.2] at g; exact g)
theorem wlloadN (C : Cur p l e s m meth c Z bc ml own nm rt) (X : Stand p l e R s m args below meth c T locs cells slots) {k : Fin 4} {v : Int64} (hd : Dec bc pc (.lload_n k) 1 pc') (hl : Ls[k.val]? = some (.val (.long v))) (g : Go p e below s Q kC kS T (mkF m pc' Ls (.long v :: S))) : Go p e below s Q kC kS T (mkF m pc Ls S) :=
  Go.step (fun _ k => XS.lloadN X.here C.1 rfl (hb C.2.2.1 hd.1) hl k) (by rw [hd.2] at g; exact g)
theorem wlload (C : Cur p l e s m meth c Z bc ml own nm rt) (X : Stand p l e R s m args below meth c T locs cells slots) {k : Nat} {v : Int64} (hd : Dec bc pc (.lload k) 2 pc') (hl : Ls[k]? = some (.val (.long v))) (g : Go p e below s Q kC kS T (mkF m pc' Ls (.long v :: S))) : Go p e below s Q kC kS T (mkF m pc Ls S) :=
  Go.step (fun _ k => XS.lload X.here C.1 rfl (hb C.2.2.1 hd.1) hl k) (by rw [hd.2] at g; exact g)
theorem wlstoreN (C : Cur p l e s m meth c Z bc ml own nm rt) (X : Stand p l e R s m args below meth c T locs cells slots) {k : Fin 4} {v : Int64} (hd : Dec bc pc (.lstore_n k) 1 pc') (l' : Array Slot) (hl : storeLocals Ls k.val (.long v) = some l') (g : Go p e below s Q kC kS T (mkF m pc' l' S)) : Go p e below s Q kC kS T (mkF m pc Ls (.long v :: S)) :=
  Go.step (fun _ k => XS.lstoreN X.here C.1 rfl (hb C.2.2.1 hd.1) rfl hl k) (by rw [hd.2] at g; exact g)
theorem wlstore (C : Cur p l e s m meth c Z bc ml own nm rt) (X : Stand p l e R s m args below meth c T locs cells slots) {k : Nat} {v : Int64} (hd : Dec bc pc (.lstore k) 2 pc') (l' : Array Slot) (hl : storeLocals Ls k (.long v) = some l') (g : Go p e below s Q kC kS T (mkF m pc' l' S)) : Go p e below s Q kC kS T (mkF m pc Ls (.long v :: S)) :=
  Go.step (fun _ k => XS.lstore X.here C.1 rfl (hb C.2.2.1 hd.1) rfl hl k) (by rw [hd.2] at g; exact g)
theorem wdloadN (C : Cur p l e s m meth c Z bc ml own nm rt) (X : Stand p l e R s m args below meth c T locs cells slots) {k : Fin 4} {v : UInt64} (hd : Dec bc pc (.dload_n k) 1 pc') (hl : Ls[k.val]? = some (.val (.double v))) (g : Go p e below s Q kC kS T (mkF m pc' Ls (.double v :: S))) : Go p e below s Q kC kS T (mkF m pc Ls S) :=
  Go.step (fun _ k => XS.dloadN X.here C.1 rfl (hb C.2.2.1 hd.1) hl k) (by rw [hd.2] at g; exact g)
theorem wdload (C : Cur p l e s m meth c Z bc ml own nm rt) (X : Stand p l e R s m args below meth c T locs cells slots) {k : Nat} {v : UInt64} (hd : Dec bc pc (.dload k) 2 pc') (hl : Ls[k]? = some (.val (.double v))) (g : Go p e below s Q kC kS T (mkF m pc' Ls (.double v :: S))) : Go p e below s Q kC kS T (mkF m pc Ls S) :=
  Go.step (fun _ k => XS.dload X.here C.1 rfl (hb C.2.2.1 hd.1) hl k) (by rw [hd.2] at g; exact g)
theorem wdstoreN (C : Cur p l e s m meth c Z bc ml own nm rt) (X : Stand p l e R s m args below meth c T locs cells slots) {k : Fin 4} {v : UInt64} (hd : Dec bc pc (.dstore_n k) 1 pc') (l' : Array Slot) (hl : storeLocals Ls k.val (.double v) = some l') (g : Go p e below s Q kC kS T (mkF m pc' l' S)) : Go p e below s Q kC kS T (mkF m pc Ls (.double v :: S)) :=
  Go.step (fun _ k => XS.dstoreN X.here C.1 rfl (hb C.2.2.1 hd.1) rfl hl k) (by rw [hd.2] at g; exact g)
theorem wdstore (C : Cur p l e s m meth c Z bc ml own nm rt) (X : Stand p l e R s m args below meth c T locs cells slots) {k : Nat} {v : UInt64} (hd : Dec bc pc (.dstore k) 2 pc') (l' : Array Slot) (hl : storeLocals Ls k (.double v) = some l') (g : Go p e below s Q kC kS T (mkF m pc' l' S)) : Go p e below s Q kC kS T (mkF m pc Ls (.double v :: S)) :=
  Go.step (fun _ k => XS.dstore X.here C.1 rfl (hb C.2.2.1 hd.1) rfl hl k) (by rw [hd.2] at g; exact g)
theorem waloadN (C : Cur p l e s m meth c Z bc ml own nm rt) (X : Stand p l e R s m args below meth c T locs cells slots) {k : Fin 4} {v : Value} (hd : Dec bc pc (.aload_n k) 1 pc') (hl : Ls[k.val]? = some (.val v)) (hv : v.isRef = true) (g : Go p e below s Q kC kS T (mkF m pc' Ls (v :: S))) : Go p e below s Q kC kS T (mkF m pc Ls S) :=
  Go.step (fun _ k => XS.aloadN X.here C.1 rfl (hb C.2.2.1 hd.1) hl hv k) (by rw [hd.2] at g; exact g)
theorem waload (C : Cur p l e s m meth c Z bc ml own nm rt) (X : Stand p l e R s m args below meth c T locs cells slots) {k : Nat} {v : Value} (hd : Dec bc pc (.aload k) 2 pc') (hl : Ls[k]? = some (.val v)) (hv : v.isRef = true) (g : Go p e below s Q kC kS T (mkF m pc' Ls (v :: S))) : Go p e below s Q kC kS T (mkF m pc Ls S) :=
  Go.step (fun _ k => XS.aload X.here C.1 rfl (hb C.2.2.1 hd.1) hl hv k) (by rw [hd.2] at g; exact g)
theorem wastoreN (C : Cur p l e s m meth c Z bc ml own nm rt) (X : Stand p l e R s m args below meth c T locs cells slots) {k : Fin 4} {v : Value} (hd : Dec bc pc (.astore_n k) 1 pc') (l' : Array Slot) (hv : v.isRef = true) (hl : storeLocals Ls k.val v = some l') (g : Go p e below s Q kC kS T (mkF m pc' l' S)) : Go p e below s Q kC kS T (mkF m pc Ls (v :: S)) :=
  Go.step (fun _ k => XS.astoreN X.here C.1 rfl (hb C.2.2.1 hd.1) rfl hv hl k) (by rw [hd.2] at g; exact g)
theorem wastore (C : Cur p l e s m meth c Z bc ml own nm rt) (X : Stand p l e R s m args below meth c T locs cells slots) {k : Nat} {v : Value} (hd : Dec bc pc (.astore k) 2 pc') (l' : Array Slot) (hv : v.isRef = true) (hl : storeLocals Ls k v = some l') (g : Go p e below s Q kC kS T (mkF m pc' l' S)) : Go p e below s Q kC kS T (mkF m pc Ls (v :: S)) :=
  Go.step (fun _ k => XS.astore X.here C.1 rfl (hb C.2.2.1 hd.1) rfl hv hl k) (by rw [hd.2] at g; exact g)
theorem wiconst (C : Cur p l e s m meth c Z bc ml own nm rt) (X : Stand p l e R s m args below meth c T locs cells slots) {i : Int} (hd : Dec bc pc (.iconst i) 1 pc') (z : Int32) (hz : Int32.ofInt i = z) (g : Go p e below s Q kC kS T (mkF m pc' Ls (.int z :: S))) : Go p e below s Q kC kS T (mkF m pc Ls S) :=
  Go.step (fun _ k => XS.iconst X.here C.1 rfl (hb C.2.2.1 hd.1) (by rw [hz]; exact k)) (by rw [hd.2] at g; exact g)
theorem wbipush (C : Cur p l e s m meth c Z bc ml own nm rt) (X : Stand p l e R s m args below meth c T locs cells slots) {i : Int} (hd : Dec bc pc (.bipush i) 2 pc') (z : Int32) (hz : (Int8.ofInt i).toInt32 = z) (g : Go p e below s Q kC kS T (mkF m pc' Ls (.int z :: S))) : Go p e below s Q kC kS T (mkF m pc Ls S) :=
  Go.step (fun _ k => XS.bipush X.here C.1 rfl (hb C.2.2.1 hd.1) (by rw [hz]; exact k)) (by rw [hd.2] at g; exact g)
theorem wsipush (C : Cur p l e s m meth c Z bc ml own nm rt) (X : Stand p l e R s m args below meth c T locs cells slots) {i : Int} (hd : Dec bc pc (.sipush i) 3 pc') (z : Int32) (hz : (Int16.ofInt i).toInt32 = z) (g : Go p e below s Q kC kS T (mkF m pc' Ls (.int z :: S))) : Go p e below s Q kC kS T (mkF m pc Ls S) :=
  Go.step (fun _ k => XS.sipush X.here C.1 rfl (hb C.2.2.1 hd.1) (by rw [hz]; exact k)) (by rw [hd.2] at g; exact g)
theorem wlconst0 (C : Cur p l e s m meth c Z bc ml own nm rt) (X : Stand p l e R s m args below meth c T locs cells slots) (hd : Dec bc pc (.lconst 0) 1 pc') (g : Go p e below s Q kC kS T (mkF m pc' Ls (.long 0 :: S))) : Go p e below s Q kC kS T (mkF m pc Ls S) :=
  Go.step (fun _ k => XS.lconst X.here C.1 rfl (hb C.2.2.1 hd.1) k) (by rw [hd.2] at g; exact g)
theorem wlconst1 (C : Cur p l e s m meth c Z bc ml own nm rt) (X : Stand p l e R s m args below meth c T locs cells slots) (hd : Dec bc pc (.lconst 1) 1 pc') (g : Go p e below s Q kC kS T (mkF m pc' Ls (.long 1 :: S))) : Go p e below s Q kC kS T (mkF m pc Ls S) :=
  Go.step (fun _ k => XS.lconst X.here C.1 rfl (hb C.2.2.1 hd.1) k) (by rw [hd.2] at g; exact g)
theorem wdconst0 (C : Cur p l e s m meth c Z bc ml own nm rt) (X : Stand p l e R s m args below meth c T locs cells slots) (hd : Dec bc pc (.dconst 0) 1 pc') (g : Go p e below s Q kC kS T (mkF m pc' Ls (.double FP.dconst0 :: S))) : Go p e below s Q kC kS T (mkF m pc Ls S) :=
  Go.step (fun _ k => XS.dconst0 X.here C.1 rfl (hb C.2.2.1 hd.1) rfl k) (by rw [hd.2] at g; exact g)
theorem wdconst1 (C : Cur p l e s m meth c Z bc ml own nm rt) (X : Stand p l e R s m args below meth c T locs cells slots) (hd : Dec bc pc (.dconst 1) 1 pc') (g : Go p e below s Q kC kS T (mkF m pc' Ls (.double FP.dconst1 :: S))) : Go p e below s Q kC kS T (mkF m pc Ls S) :=
  Go.step (fun _ k => XS.dconst1 X.here C.1 rfl (hb C.2.2.1 hd.1) rfl k) (by rw [hd.2] at g; exact g)
theorem wnull (C : Cur p l e s m meth c Z bc ml own nm rt) (X : Stand p l e R s m args below meth c T locs cells slots) (hd : Dec bc pc (.aconst_null) 1 pc') (g : Go p e below s Q kC kS T (mkF m pc' Ls (.null :: S))) : Go p e below s Q kC kS T (mkF m pc Ls S) :=
  Go.step (fun _ k => XS.aconstNull X.here C.1 rfl (hb C.2.2.1 hd.1) k) (by rw [hd.2] at g; exact g)
theorem wiadd (C : Cur p l e s m meth c Z bc ml own nm rt) (X : Stand p l e R s m args below meth c T locs cells slots) {x y : Int32} (hd : Dec bc pc (.iadd) 1 pc') (g : Go p e below s Q kC kS T (mkF m pc' Ls (.int (x + y) :: S))) : Go p e below s Q kC kS T (mkF m pc Ls (.int y :: .int x :: S)) :=
  Go.step (fun _ k => XS.iadd X.here C.1 rfl (hb C.2.2.1 hd.1) rfl k) (by rw [hd.2] at g; exact g)
theorem wisub (C : Cur p l e s m meth c Z bc ml own nm rt) (X : Stand p l e R s m args below meth c T locs cells slots) {x y : Int32} (hd : Dec bc pc (.isub) 1 pc') (g : Go p e below s Q kC kS T (mkF m pc' Ls (.int (x - y) :: S))) : Go p e below s Q kC kS T (mkF m pc Ls (.int y :: .int x :: S)) :=
  Go.step (fun _ k => XS.isub X.here C.1 rfl (hb C.2.2.1 hd.1) rfl k) (by rw [hd.2] at g; exact g)
theorem wimul (C : Cur p l e s m meth c Z bc ml own nm rt) (X : Stand p l e R s m args below meth c T locs cells slots) {x y : Int32} (hd : Dec bc pc (.imul) 1 pc') (g : Go p e below s Q kC kS T (mkF m pc' Ls (.int (x * y) :: S))) : Go p e below s Q kC kS T (mkF m pc Ls (.int y :: .int x :: S)) :=
  Go.step (fun _ k => XS.imul X.here C.1 rfl (hb C.2.2.1 hd.1) rfl k) (by rw [hd.2] at g; exact g)
theorem wiand (C : Cur p l e s m meth c Z bc ml own nm rt) (X : Stand p l e R s m args below meth c T locs cells slots) {x y : Int32} (hd : Dec bc pc (.iand) 1 pc') (g : Go p e below s Q kC kS T (mkF m pc' Ls (.int (x &&& y) :: S))) : Go p e below s Q kC kS T (mkF m pc Ls (.int y :: .int x :: S)) :=
  Go.step (fun _ k => XS.iand X.here C.1 rfl (hb C.2.2.1 hd.1) rfl k) (by rw [hd.2] at g; exact g)
theorem wior (C : Cur p l e s m meth c Z bc ml own nm rt) (X : Stand p l e R s m args below meth c T locs cells slots) {x y : Int32} (hd : Dec bc pc (.ior) 1 pc') (g : Go p e below s Q kC kS T (mkF m pc' Ls (.int (x ||| y) :: S))) : Go p e below s Q kC kS T (mkF m pc Ls (.int y :: .int x :: S)) :=
  Go.step (fun _ k => XS.ior X.here C.1 rfl (hb C.2.2.1 hd.1) rfl k) (by rw [hd.2] at g; exact g)
theorem wixor (C : Cur p l e s m meth c Z bc ml own nm rt) (X : Stand p l e R s m args below meth c T locs cells slots) {x y : Int32} (hd : Dec bc pc (.ixor) 1 pc') (g : Go p e below s Q kC kS T (mkF m pc' Ls (.int (x ^^^ y) :: S))) : Go p e below s Q kC kS T (mkF m pc Ls (.int y :: .int x :: S)) :=
  Go.step (fun _ k => XS.ixor X.here C.1 rfl (hb C.2.2.1 hd.1) rfl k) (by rw [hd.2] at g; exact g)
theorem wishl (C : Cur p l e s m meth c Z bc ml own nm rt) (X : Stand p l e R s m args below meth c T locs cells slots) {x y : Int32} (hd : Dec bc pc (.ishl) 1 pc') (g : Go p e below s Q kC kS T (mkF m pc' Ls (.int (x <<< (y &&& 31)) :: S))) : Go p e below s Q kC kS T (mkF m pc Ls (.int y :: .int x :: S)) :=
  Go.step (fun _ k => XS.ishl X.here C.1 rfl (hb C.2.2.1 hd.1) rfl k) (by rw [hd.2] at g; exact g)
theorem wishr (C : Cur p l e s m meth c Z bc ml own nm rt) (X : Stand p l e R s m args below meth c T locs cells slots) {x y : Int32} (hd : Dec bc pc (.ishr) 1 pc') (g : Go p e below s Q kC kS T (mkF m pc' Ls (.int (x >>> (y &&& 31)) :: S))) : Go p e below s Q kC kS T (mkF m pc Ls (.int y :: .int x :: S)) :=
  Go.step (fun _ k => XS.ishr X.here C.1 rfl (hb C.2.2.1 hd.1) rfl k) (by rw [hd.2] at g; exact g)
theorem wiushr (C : Cur p l e s m meth c Z bc ml own nm rt) (X : Stand p l e R s m args below meth c T locs cells slots) {x y : Int32} (hd : Dec bc pc (.iushr) 1 pc') (g : Go p e below s Q kC kS T (mkF m pc' Ls (.int ((x.toUInt32 >>> (y &&& 31).toUInt32).toInt32) :: S))) : Go p e below s Q kC kS T (mkF m pc Ls (.int y :: .int x :: S)) :=
  Go.step (fun _ k => XS.iushr X.here C.1 rfl (hb C.2.2.1 hd.1) rfl k) (by rw [hd.2] at g; exact g)
theorem wladd (C : Cur p l e s m meth c Z bc ml own nm rt) (X : Stand p l e R s m args below meth c T locs cells slots) {x y : Int64} (hd : Dec bc pc (.ladd) 1 pc') (g : Go p e below s Q kC kS T (mkF m pc' Ls (.long (x + y) :: S))) : Go p e below s Q kC kS T (mkF m pc Ls (.long y :: .long x :: S)) :=
  Go.step (fun _ k => XS.ladd X.here C.1 rfl (hb C.2.2.1 hd.1) rfl k) (by rw [hd.2] at g; exact g)
theorem wlsub (C : Cur p l e s m meth c Z bc ml own nm rt) (X : Stand p l e R s m args below meth c T locs cells slots) {x y : Int64} (hd : Dec bc pc (.lsub) 1 pc') (g : Go p e below s Q kC kS T (mkF m pc' Ls (.long (x - y) :: S))) : Go p e below s Q kC kS T (mkF m pc Ls (.long y :: .long x :: S)) :=
  Go.step (fun _ k => XS.lsub X.here C.1 rfl (hb C.2.2.1 hd.1) rfl k) (by rw [hd.2] at g; exact g)
theorem wlmul (C : Cur p l e s m meth c Z bc ml own nm rt) (X : Stand p l e R s m args below meth c T locs cells slots) {x y : Int64} (hd : Dec bc pc (.lmul) 1 pc') (g : Go p e below s Q kC kS T (mkF m pc' Ls (.long (x * y) :: S))) : Go p e below s Q kC kS T (mkF m pc Ls (.long y :: .long x :: S)) :=
  Go.step (fun _ k => XS.lmul X.here C.1 rfl (hb C.2.2.1 hd.1) rfl k) (by rw [hd.2] at g; exact g)
theorem wland (C : Cur p l e s m meth c Z bc ml own nm rt) (X : Stand p l e R s m args below meth c T locs cells slots) {x y : Int64} (hd : Dec bc pc (.land) 1 pc') (g : Go p e below s Q kC kS T (mkF m pc' Ls (.long (x &&& y) :: S))) : Go p e below s Q kC kS T (mkF m pc Ls (.long y :: .long x :: S)) :=
  Go.step (fun _ k => XS.land X.here C.1 rfl (hb C.2.2.1 hd.1) rfl k) (by rw [hd.2] at g; exact g)
theorem wlor (C : Cur p l e s m meth c Z bc ml own nm rt) (X : Stand p l e R s m args below meth c T locs cells slots) {x y : Int64} (hd : Dec bc pc (.lor) 1 pc') (g : Go p e below s Q kC kS T (mkF m pc' Ls (.long (x ||| y) :: S))) : Go p e below s Q kC kS T (mkF m pc Ls (.long y :: .long x :: S)) :=
  Go.step (fun _ k => XS.lor X.here C.1 rfl (hb C.2.2.1 hd.1) rfl k) (by rw [hd.2] at g; exact g)
theorem wlxor (C : Cur p l e s m meth c Z bc ml own nm rt) (X : Stand p l e R s m args below meth c T locs cells slots) {x y : Int64} (hd : Dec bc pc (.lxor) 1 pc') (g : Go p e below s Q kC kS T (mkF m pc' Ls (.long (x ^^^ y) :: S))) : Go p e below s Q kC kS T (mkF m pc Ls (.long y :: .long x :: S)) :=
  Go.step (fun _ k => XS.lxor X.here C.1 rfl (hb C.2.2.1 hd.1) rfl k) (by rw [hd.2] at g; exact g)
theorem wlshl (C : Cur p l e s m meth c Z bc ml own nm rt) (X : Stand p l e R s m args below meth c T locs cells slots) {x : Int64} {y : Int32} (hd : Dec bc pc (.lshl) 1 pc') (g : Go p e below s Q kC kS T (mkF m pc' Ls (.long (x <<< (y &&& 0x3f).toInt64) :: S))) : Go p e below s Q kC kS T (mkF m pc Ls (.int y :: .long x :: S)) :=
  Go.step (fun _ k => XS.lshl X.here C.1 rfl (hb C.2.2.1 hd.1) rfl k) (by rw [hd.2] at g; exact g)
theorem wlshr (C : Cur p l e s m meth c Z bc ml own nm rt) (X : Stand p l e R s m args below meth c T locs cells slots) {x : Int64} {y : Int32} (hd : Dec bc pc (.lshr) 1 pc') (g : Go p e below s Q kC kS T (mkF m pc' Ls (.long (x >>> (y &&& 0x3f).toInt64) :: S))) : Go p e below s Q kC kS T (mkF m pc Ls (.int y :: .long x :: S)) :=
  Go.step (fun _ k => XS.lshr X.here C.1 rfl (hb C.2.2.1 hd.1) rfl k) (by rw [hd.2] at g; exact g)
theorem wlushr (C : Cur p l e s m meth c Z bc ml own nm rt) (X : Stand p l e R s m args below meth c T locs cells slots) {x : Int64} {y : Int32} (hd : Dec bc pc (.lushr) 1 pc') (g : Go p e below s Q kC kS T (mkF m pc' Ls (.long ((x.toUInt64 >>> (y &&& 0x3f).toInt64.toUInt64).toInt64) :: S))) : Go p e below s Q kC kS T (mkF m pc Ls (.int y :: .long x :: S)) :=
  Go.step (fun _ k => XS.lushr X.here C.1 rfl (hb C.2.2.1 hd.1) rfl k) (by rw [hd.2] at g; exact g)
theorem widiv (C : Cur p l e s m meth c Z bc ml own nm rt) (X : Stand p l e R s m args below meth c T locs cells slots) {x y : Int32} (hd : Dec bc pc (.idiv) 1 pc') (hy : y ≠ 0) (g : Go p e below s Q kC kS T (mkF m pc' Ls (.int (x / y) :: S))) : Go p e below s Q kC kS T (mkF m pc Ls (.int y :: .int x :: S)) :=
  Go.step (fun _ k => XS.idiv X.here C.1 rfl (hb C.2.2.1 hd.1) rfl hy k) (by rw [hd.2] at g; exact g)
theorem wirem (C : Cur p l e s m meth c Z bc ml own nm rt) (X : Stand p l e R s m args below meth c T locs cells slots) {x y : Int32} (hd : Dec bc pc (.irem) 1 pc') (hy : y ≠ 0) (g : Go p e below s Q kC kS T (mkF m pc' Ls (.int (x % y) :: S))) : Go p e below s Q kC kS T (mkF m pc Ls (.int y :: .int x :: S)) :=
  Go.step (fun _ k => iremM X C.1 rfl (hb C.2.2.1 hd.1) rfl hy k) (by rw [hd.2] at g; exact g)
theorem wldiv (C : Cur p l e s m meth c Z bc ml own nm rt) (X : Stand p l e R s m args below meth c T locs cells slots) {x y : Int64} (hd : Dec bc pc (.ldiv) 1 pc') (hy : y ≠ 0) (g : Go p e below s Q kC kS T (mkF m pc' Ls (.long (x / y) :: S))) : Go p e below s Q kC kS T (mkF m pc Ls (.long y :: .long x :: S)) :=
  Go.step (fun _ k => XS.ldiv X.here C.1 rfl (hb C.2.2.1 hd.1) rfl hy k) (by rw [hd.2] at g; exact g)
theorem wineg (C : Cur p l e s m meth c Z bc ml own nm rt) (X : Stand p l e R s m args below meth c T locs cells slots) {x : Int32} (hd : Dec bc pc (.ineg) 1 pc') (g : Go p e below s Q kC kS T (mkF m pc' Ls (.int (-x) :: S))) : Go p e below s Q kC kS T (mkF m pc Ls (.int x :: S)) :=
  Go.step (fun _ k => XS.ineg X.here C.1 rfl (hb C.2.2.1 hd.1) rfl k) (by rw [hd.2] at g; exact g)
theorem wi2l (C : Cur p l e s m meth c Z bc ml own nm rt) (X : Stand p l e R s m args below meth c T locs cells slots) {x : Int32} (hd : Dec bc pc (.i2l) 1 pc') (g : Go p e below s Q kC kS T (mkF m pc' Ls (.long (x.toInt64) :: S))) : Go p e below s Q kC kS T (mkF m pc Ls (.int x :: S)) :=
  Go.step (fun _ k => XS.i2l X.here C.1 rfl (hb C.2.2.1 hd.1) rfl k) (by rw [hd.2] at g; exact g)
theorem wl2i (C : Cur p l e s m meth c Z bc ml own nm rt) (X : Stand p l e R s m args below meth c T locs cells slots) {x : Int64} (hd : Dec bc pc (.l2i) 1 pc') (g : Go p e below s Q kC kS T (mkF m pc' Ls (.int (x.toInt32) :: S))) : Go p e below s Q kC kS T (mkF m pc Ls (.long x :: S)) :=
  Go.step (fun _ k => XS.l2i X.here C.1 rfl (hb C.2.2.1 hd.1) rfl k) (by rw [hd.2] at g; exact g)
theorem wi2b (C : Cur p l e s m meth c Z bc ml own nm rt) (X : Stand p l e R s m args below meth c T locs cells slots) {x : Int32} (hd : Dec bc pc (.i2b) 1 pc') (g : Go p e below s Q kC kS T (mkF m pc' Ls (.int (x.toInt8.toInt32) :: S))) : Go p e below s Q kC kS T (mkF m pc Ls (.int x :: S)) :=
  Go.step (fun _ k => XS.i2b X.here C.1 rfl (hb C.2.2.1 hd.1) rfl k) (by rw [hd.2] at g; exact g)
theorem wi2s (C : Cur p l e s m meth c Z bc ml own nm rt) (X : Stand p l e R s m args below meth c T locs cells slots) {x : Int32} (hd : Dec bc pc (.i2s) 1 pc') (g : Go p e below s Q kC kS T (mkF m pc' Ls (.int (x.toInt16.toInt32) :: S))) : Go p e below s Q kC kS T (mkF m pc Ls (.int x :: S)) :=
  Go.step (fun _ k => XS.i2s X.here C.1 rfl (hb C.2.2.1 hd.1) rfl k) (by rw [hd.2] at g; exact g)
theorem wi2c (C : Cur p l e s m meth c Z bc ml own nm rt) (X : Stand p l e R s m args below meth c T locs cells slots) {x : Int32} (hd : Dec bc pc (.i2c) 1 pc') (g : Go p e below s Q kC kS T (mkF m pc' Ls (.int (x.toUInt32.toUInt16.toUInt32.toInt32) :: S))) : Go p e below s Q kC kS T (mkF m pc Ls (.int x :: S)) :=
  Go.step (fun _ k => XS.i2c X.here C.1 rfl (hb C.2.2.1 hd.1) rfl k) (by rw [hd.2] at g; exact g)
theorem wlneg (C : Cur p l e s m meth c Z bc ml own nm rt) (X : Stand p l e R s m args below meth c T locs cells slots) {x : Int64} (hd : Dec bc pc (.lneg) 1 pc') (g : Go p e below s Q kC kS T (mkF m pc' Ls (.long (-x) :: S))) : Go p e below s Q kC kS T (mkF m pc Ls (.long x :: S)) :=
  Go.step (fun _ k => XS.lneg X.here C.1 rfl (hb C.2.2.1 hd.1) rfl k) (by rw [hd.2] at g; exact g)
theorem wi2d (C : Cur p l e s m meth c Z bc ml own nm rt) (X : Stand p l e R s m args below meth c T locs cells slots) {x : Int32} (hd : Dec bc pc (.i2d) 1 pc') (g : Go p e below s Q kC kS T (mkF m pc' Ls (.double (FP.i2d x) :: S))) : Go p e below s Q kC kS T (mkF m pc Ls (.int x :: S)) :=
  Go.step (fun _ k => XS.i2dS X.here C.1 rfl (hb C.2.2.1 hd.1) rfl rfl k) (by rw [hd.2] at g; exact g)
theorem wl2d (C : Cur p l e s m meth c Z bc ml own nm rt) (X : Stand p l e R s m args below meth c T locs cells slots) {x : Int64} (hd : Dec bc pc (.l2d) 1 pc') (g : Go p e below s Q kC kS T (mkF m pc' Ls (.double (FP.l2d x) :: S))) : Go p e below s Q kC kS T (mkF m pc Ls (.long x :: S)) :=
  Go.step (fun _ k => XS.l2dS X.here C.1 rfl (hb C.2.2.1 hd.1) rfl rfl k) (by rw [hd.2] at g; exact g)
theorem wd2i (C : Cur p l e s m meth c Z bc ml own nm rt) (X : Stand p l e R s m args below meth c T locs cells slots) {x : UInt64} (hd : Dec bc pc (.d2i) 1 pc') (g : Go p e below s Q kC kS T (mkF m pc' Ls (.int (FP.d2i x) :: S))) : Go p e below s Q kC kS T (mkF m pc Ls (.double x :: S)) :=
  Go.step (fun _ k => XS.d2iS X.here C.1 rfl (hb C.2.2.1 hd.1) rfl rfl k) (by rw [hd.2] at g; exact g)
theorem wd2l (C : Cur p l e s m meth c Z bc ml own nm rt) (X : Stand p l e R s m args below meth c T locs cells slots) {x : UInt64} (hd : Dec bc pc (.d2l) 1 pc') (g : Go p e below s Q kC kS T (mkF m pc' Ls (.long (FP.d2l x) :: S))) : Go p e below s Q kC kS T (mkF m pc Ls (.double x :: S)) :=
  Go.step (fun _ k => XS.d2lS X.here C.1 rfl (hb C.2.2.1 hd.1) rfl rfl k) (by rw [hd.2] at g; exact g)
theorem wdneg (C : Cur p l e s m meth c Z bc ml own nm rt) (X : Stand p l e R s m args below meth c T locs cells slots) {x : UInt64} (hd : Dec bc pc (.dneg) 1 pc') (g : Go p e below s Q kC kS T (mkF m pc' Ls (.double (FP.dneg x) :: S))) : Go p e below s Q kC kS T (mkF m pc Ls (.double x :: S)) :=
  Go.step (fun _ k => XS.dnegS X.here C.1 rfl (hb C.2.2.1 hd.1) rfl rfl k) (by rw [hd.2] at g; exact g)
theorem wdadd (C : Cur p l e s m meth c Z bc ml own nm rt) (X : Stand p l e R s m args below meth c T locs cells slots) {x y : UInt64} (hd : Dec bc pc (.dadd) 1 pc') {v : UInt64} (hv : FP.dadd x y = v) (hn : Jvm.Free.Fl.NoNaN64 v) (g : Go p e below s Q kC kS T (mkF m pc' Ls (.double v :: S))) : Go p e below s Q kC kS T (mkF m pc Ls (.double y :: .double x :: S)) :=
  Go.step (fun _ k => XS.daddS X.here C.1 rfl (hb C.2.2.1 hd.1) rfl (by rw [hv]; exact hn) hv k) (by rw [hd.2] at g; exact g)
theorem wdsub (C : Cur p l e s m meth c Z bc ml own nm rt) (X : Stand p l e R s m args below meth c T locs cells slots) {x y : UInt64} (hd : Dec bc pc (.dsub) 1 pc') {v : UInt64} (hv : FP.dsub x y = v) (hn : Jvm.Free.Fl.NoNaN64 v) (g : Go p e below s Q kC kS T (mkF m pc' Ls (.double v :: S))) : Go p e below s Q kC kS T (mkF m pc Ls (.double y :: .double x :: S)) :=
  Go.step (fun _ k => XS.dsubS X.here C.1 rfl (hb C.2.2.1 hd.1) rfl (by rw [hv]; exact hn) hv k) (by rw [hd.2] at g; exact g)
theorem wdmul (C : Cur p l e s m meth c Z bc ml own nm rt) (X : Stand p l e R s m args below meth c T locs cells slots) {x y : UInt64} (hd : Dec bc pc (.dmul) 1 pc') {v : UInt64} (hv : FP.dmul x y = v) (hn : Jvm.Free.Fl.NoNaN64 v) (g : Go p e below s Q kC kS T (mkF m pc' Ls (.double v :: S))) : Go p e below s Q kC kS T (mkF m pc Ls (.double y :: .double x :: S)) :=
  Go.step (fun _ k => XS.dmulS X.here C.1 rfl (hb C.2.2.1 hd.1) rfl (by rw [hv]; exact hn) hv k) (by rw [hd.2] at g; exact g)
theorem wddiv (C : Cur p l e s m meth c Z bc ml own nm rt) (X : Stand p l e R s m args below meth c T locs cells slots) {x y : UInt64} (hd : Dec bc pc (.ddiv) 1 pc') {v : UInt64} (hv : FP.ddiv x y = v) (hn : Jvm.Free.Fl.NoNaN64 v) (g : Go p e below s Q kC kS T (mkF m pc' Ls (.double v :: S))) : Go p e below s Q kC kS T (mkF m pc Ls (.double y :: .double x :: S)) :=
  Go.step (fun _ k => XS.ddivS X.here C.1 rfl (hb C.2.2.1 hd.1) rfl (by rw [hv]; exact hn) hv k) (by rw [hd.2] at g; exact g)
theorem wdcmp (C : Cur p l e s m meth c Z bc ml own nm rt) (X : Stand p l e R s m args below meth c T locs cells slots) {o : CmpOp} {x y : UInt64} (hd : Dec bc pc (.dcmp o) 1 pc') {v : Int32} (hv : cmpValue (FP.dcmp x y) o = v) (g : Go p e below s Q kC kS T (mkF m pc' Ls (.int v :: S))) : Go p e below s Q kC kS T (mkF m pc Ls (.double y :: .double x :: S)) :=
  Go.step (fun _ k => XS.dcmpS X.here C.1 rfl (hb C.2.2.1 hd.1) rfl hv k) (by rw [hd.2] at g; exact g)
theorem wlcmp (C : Cur p l e s m meth c Z bc ml own nm rt) (X : Stand p l e R s m args below meth c T locs cells slots) {x y : Int64} (hd : Dec bc pc (.lcmp) 1 pc') (g : Go p e below s Q kC kS T (mkF m pc' Ls (.int (lcmpW x y) :: S))) : Go p e below s Q kC kS T (mkF m pc Ls (.long y :: .long x :: S)) :=
  Go.step (fun _ k => XS.lcmp X.here C.1 rfl (hb C.2.2.1 hd.1) rfl k) (by rw [hd.2] at g; exact g)
theorem wdup (C : Cur p l e s m meth c Z bc ml own nm rt) (X : Stand p l e R s m args below meth c T locs cells slots) {v : Value} (hd : Dec bc pc (.dup) 1 pc') (hc : v.category = 1) (g : Go p e below s Q kC kS T (mkF m pc' Ls (v :: v :: S))) : Go p e below s Q kC kS T (mkF m pc Ls (v :: S)) :=
  Go.step (fun _ k => XS.dup X.here C.1 rfl (hb C.2.2.1 hd.1) rfl hc k) (by rw [hd.2] at g; exact g)
theorem wdupX1 (C : Cur p l e s m meth c Z bc ml own nm rt) (X : Stand p l e R s m args below meth c T locs cells slots) {v u : Value} (hd : Dec bc pc (.dup_x1) 1 pc') (hc : v.category = 1) (hc' : u.category = 1) (g : Go p e below s Q kC kS T (mkF m pc' Ls (v :: u :: v :: S))) : Go p e below s Q kC kS T (mkF m pc Ls (v :: u :: S)) :=
  Go.step (fun _ k => XS.dupX1 X.here C.1 rfl (hb C.2.2.1 hd.1) rfl hc hc' k) (by rw [hd.2] at g; exact g)
theorem wdup2 (C : Cur p l e s m meth c Z bc ml own nm rt) (X : Stand p l e R s m args below meth c T locs cells slots) {v u : Value} (hd : Dec bc pc (.dup2) 1 pc') (hc : v.category = 1) (hc' : u.category = 1) (g : Go p e below s Q kC kS T (mkF m pc' Ls (v :: u :: v :: u :: S))) : Go p e below s Q kC kS T (mkF m pc Ls (v :: u :: S)) :=
  Go.step (fun _ k => Jvm.Free.XT.dup2 X.here C.1 rfl (hb C.2.2.1 hd.1) rfl hc hc' k) (by rw [hd.2] at g; exact g)
theorem wpop (C : Cur p l e s m meth c Z bc ml own nm rt) (X : Stand p l e R s m args below meth c T locs cells slots) {v : Value} (hd : Dec bc pc (.pop) 1 pc') (hc : v.category = 1) (g : Go p e below s Q kC kS T (mkF m pc' Ls S)) : Go p e below s Q kC kS T (mkF m pc Ls (v :: S)) :=
  Go.step (fun _ k => XS.pop X.here C.1 rfl (hb C.2.2.1 hd.1) rfl hc k) (by rw [hd.2] at g; exact g)
theorem wiinc (C : Cur p l e s m meth c Z bc ml own nm rt) (X : Stand p l e R s m args below meth c T locs cells slots) {k : Nat} {cst : Int} {x : Int32} (hd : Dec bc pc (.iinc k cst) 3 pc') (z : Int32) (hz : x + Int32.ofInt cst = z) (hl : Ls[k]? = some (.val (.int x))) (l' : Array Slot) (hl' : storeLocals Ls k (.int z) = some l') (g : Go p e below s Q kC kS T (mkF m pc' l' S)) : Go p e below s Q kC kS T (mkF m pc Ls S) :=
  Go.step (fun _ k => XS.iinc X.here C.1 rfl (hb C.2.2.1 hd.1) hl (by rw [hz]; exact hl') k) (by rw [hd.2] at g; exact g)
theorem wgoto (C : Cur p l e s m meth c Z bc ml own nm rt) (X : Stand p l e R s m args below meth c T locs cells slots) {o : Int} {tgt nxt : Nat} (hd : DecJ bc pc (.goto o) o tgt nxt) (g : Go p e below s Q kC kS T (mkF m tgt Ls S)) : Go p e below s Q kC kS T (mkF m pc Ls S) :=
  Go.step (fun _ k => XS.goto X.here C.1 rfl (pc0 := pc) (pc' := tgt) rfl (hb C.2.2.1 hd.1) hd.2.1 hd.2.2.1 k) g
theorem wicmp_lt (C : Cur p l e s m meth c Z bc ml own nm rt) (X : Stand p l e R s m args below meth c T locs cells slots) {x y : Int32} {o : Int} {tgt nxt : Nat} (hd : DecJ bc pc (.if_icmp .lt o) o tgt nxt) (hp : x < y → Go p e below s Q kC kS T (mkF m tgt Ls S)) (hn : ¬ x < y → Go p e below s Q kC kS T (mkF m nxt Ls S)) : Go p e below s Q kC kS T (mkF m pc Ls (.int y :: .int x :: S)) := by
  by_cases h : x < y
  · have g := hp h
    exact Go.step (fun _ k => XS.icmpYes X.here C.1 rfl (pc0 := pc) (pc' := tgt) rfl (hb C.2.2.1 hd.1) rfl (tlt h).1 hd.2.1 hd.2.2.1 k) g
  · have g := hn h
    rw [hd.2.2.2] at g; exact Go.step (fun _ k => XS.icmpNo X.here C.1 rfl (hb C.2.2.1 hd.1) rfl (flt h).1 k) g
theorem wif_lt (C : Cur p l e s m meth c Z bc ml own nm rt) (X : Stand p l e R s m args below meth c T locs cells slots) {x : Int32} {o : Int} {tgt nxt : Nat} (hd : DecJ bc pc (.ifCond .lt o) o tgt nxt) (hp : x < (0 : Int32) → Go p e below s Q kC kS T (mkF m tgt Ls S)) (hn : ¬ x < (0 : Int32) → Go p e below s Q kC kS T (mkF m nxt Ls S)) : Go p e below s Q kC kS T (mkF m pc Ls (.int x :: S)) := by
  by_cases h : x < (0 : Int32)
  · have g := hp h
    exact Go.step (fun _ k => XS.ifYes X.here C.1 rfl (pc0 := pc) (pc' := tgt) rfl (hb C.2.2.1 hd.1) rfl ((if0 _ _).trans (tlt h).1) hd.2.1 hd.2.2.1 k) g
  · have g := hn h
    rw [hd.2.2.2] at g; exact Go.step (fun _ k => XS.ifNo X.here C.1 rfl (hb C.2.2.1 hd.1) rfl ((if0 _ _).trans (flt h).1) k) g
theorem wicmp_ge (C : Cur p l e s m meth c Z bc ml own nm rt) (X : Stand p l e R s m args below meth c T locs cells slots) {x y : Int32} {o : Int} {tgt nxt : Nat} (hd : DecJ bc pc (.if_icmp .ge o) o tgt nxt) (hp : x < y → Go p e below s Q kC kS T (mkF m nxt Ls S)) (hn : ¬ x < y → Go p e below s Q kC kS T (mkF m tgt Ls S)) : Go p e below s Q kC kS T (mkF m pc Ls (.int y :: .int x :: S)) := by
  by_cases h : x < y
  · have g := hp h
    rw [hd.2.2.2] at g; exact Go.step (fun _ k => XS.icmpNo X.here C.1 rfl (hb C.2.2.1 hd.1) rfl (tlt h).2.1 k) g
  · have g := hn h
    exact Go.step (fun _ k => XS.icmpYes X.here C.1 rfl (pc0 := pc) (pc' := tgt) rfl (hb C.2.2.1 hd.1) rfl (flt h).2.1 hd.2.1 hd.2.2.1 k) g
theorem wif_ge (C : Cur p l e s m meth c Z bc ml own nm rt) (X : Stand p l e R s m args below meth c T locs cells slots) {x : Int32} {o : Int} {tgt nxt : Nat} (hd : DecJ bc pc (.ifCond .ge o) o tgt nxt) (hp : x < (0 : Int32) → Go p e below s Q kC kS T (mkF m nxt Ls S)) (hn : ¬ x < (0 : Int32) → Go p e below s Q kC kS T (mkF m tgt Ls S)) : Go p e below s Q kC kS T (mkF m pc Ls (.int x :: S)) := by
  by_cases h : x < (0 : Int32)
  · have g := hp h
    rw [hd.2.2.2] at g; exact Go.step (fun _ k => XS.ifNo X.here C.1 rfl (hb C.2.2.1 hd.1) rfl ((if0 _ _).trans (tlt h).2.1) k) g
  · have g := hn h
    exact Go.step (fun _ k => XS.ifYes X.here C.1 rfl (pc0 := pc) (pc' := tgt) rfl (hb C.2.2.1 hd.1) rfl ((if0 _ _).trans (flt h).2.1) hd.2.1 hd.2.2.1 k) g
theorem wicmp_gt (C : Cur p l e s m meth c Z bc ml own nm rt) (X : Stand p l e R s m args below meth c T locs cells slots) {x y : Int32} {o : Int} {tgt nxt : Nat} (hd : DecJ bc pc (.if_icmp .gt o) o tgt nxt) (hp : y < x → Go p e below s Q kC kS T (mkF m tgt Ls S)) (hn : ¬ y < x → Go p e below s Q kC kS T (mkF m nxt Ls S)) : Go p e below s Q kC kS T (mkF m pc Ls (.int y :: .int x :: S)) := by
  by_cases h : y < x
  · have g := hp h
    exact Go.step (fun _ k => XS.icmpYes X.here C.1 rfl (pc0 := pc) (pc' := tgt) rfl (hb C.2.2.1 hd.1) rfl (tlt h).2.2.1 hd.2.1 hd.2.2.1 k) g
  · have g := hn h
    rw [hd.2.2.2] at g; exact Go.step (fun _ k => XS.icmpNo X.here C.1 rfl (hb C.2.2.1 hd.1) rfl (flt h).2.2.1 k) g
theorem wif_gt (C : Cur p l e s m meth c Z bc ml own nm rt) (X : Stand p l e R s m args below meth c T locs cells slots) {x : Int32} {o : Int} {tgt nxt : Nat} (hd : DecJ bc pc (.ifCond .gt o) o tgt nxt) (hp : (0 : Int32) < x → Go p e below s Q kC kS T (mkF m tgt Ls S)) (hn : ¬ (0 : Int32) < x → Go p e below s Q kC kS T (mkF m nxt Ls S)) : Go p e below s Q kC kS T (mkF m pc Ls (.int x :: S)) := by
  by_cases h : (0 : Int32) < x
  · have g := hp h
    exact Go.step (fun _ k => XS.ifYes X.here C.1 rfl (pc0 := pc) (pc' := tgt) rfl (hb C.2.2.1 hd.1) rfl ((if0 _ _).trans (tlt h).2.2.1) hd.2.1 hd.2.2.1 k) g
  · have g := hn h
    rw [hd.2.2.2] at g; exact Go.step (fun _ k => XS.ifNo X.here C.1 rfl (hb C.2.2.1 hd.1) rfl ((if0 _ _).trans (flt h).2.2.1) k) g
theorem wicmp_le (C : Cur p l e s m meth c Z bc ml own nm rt) (X : Stand p l e R s m args below meth c T locs cells slots) {x y : Int32} {o : Int} {tgt nxt : Nat} (hd : DecJ bc pc (.if_icmp .le o) o tgt nxt) (hp : y < x → Go p e below s Q kC kS T (mkF m nxt Ls S)) (hn : ¬ y < x → Go p e below s Q kC kS T (mkF m tgt Ls S)) : Go p e below s Q kC kS T (mkF m pc Ls (.int y :: .int x :: S)) := by
  by_cases h : y < x
  · have g := hp h
    rw [hd.2.2.2] at g; exact Go.step (fun _ k => XS.icmpNo X.here C.1 rfl (hb C.2.2.1 hd.1) rfl (tlt h).2.2.2 k) g
  · have g := hn h
    exact Go.step (fun _ k => XS.icmpYes X.here C.1 rfl (pc0 := pc) (pc' := tgt) rfl (hb C.2.2.1 hd.1) rfl (flt h).2.2.2 hd.2.1 hd.2.2.1 k) g
theorem wif_le (C : Cur p l e s m meth c Z bc ml own nm rt) (X : Stand p l e R s m args below meth c T locs cells slots) {x : Int32} {o : Int} {tgt nxt : Nat} (hd : DecJ bc pc (.ifCond .le o) o tgt nxt) (hp : (0 : Int32) < x → Go p e below s Q kC kS T (mkF m nxt Ls S)) (hn : ¬ (0 : Int32) < x → Go p e below s Q kC kS T (mkF m tgt Ls S)) : Go p e below s Q kC kS T (mkF m pc Ls (.int x :: S)) := by
  by_cases h : (0 : Int32) < x
  · have g := hp h
    rw [hd.2.2.2] at g; exact Go.step (fun _ k => XS.ifNo X.here C.1 rfl (hb C.2.2.1 hd.1) rfl ((if0 _ _).trans (tlt h).2.2.2) k) g
  · have g := hn h
    exact Go.step (fun _ k => XS.ifYes X.here C.1 rfl (pc0 := pc) (pc' := tgt) rfl (hb C.2.2.1 hd.1) rfl ((if0 _ _).trans (flt h).2.2.2) hd.2.1 hd.2.2.1 k) g
theorem wicmp_eq (C : Cur p l e s m meth c Z bc ml own nm rt) (X : Stand p l e R s m args below meth c T locs cells slots) {x y : Int32} {o : Int} {tgt nxt : Nat} (hd : DecJ bc pc (.if_icmp .eq o) o tgt nxt) (hp : x = y → Go p e below s Q kC kS T (mkF m tgt Ls S)) (hn : ¬ x = y → Go p e below s Q kC kS T (mkF m nxt Ls S)) : Go p e below s Q kC kS T (mkF m pc Ls (.int y :: .int x :: S)) := by
  by_cases h : x = y
  · have g := hp h
    exact Go.step (fun _ k => XS.icmpYes X.here C.1 rfl (pc0 := pc) (pc' := tgt) rfl (hb C.2.2.1 hd.1) rfl (teq h).1 hd.2.1 hd.2.2.1 k) g
  · have g := hn h
    rw [hd.2.2.2] at g; exact Go.step (fun _ k => XS.icmpNo X.here C.1 rfl (hb C.2.2.1 hd.1) rfl (feq h).1 k) g
theorem wif_eq (C : Cur p l e s m meth c Z bc ml own nm rt) (X : Stand p l e R s m args below meth c T locs cells slots) {x : Int32} {o : Int} {tgt nxt : Nat} (hd : DecJ bc pc (.ifCond .eq o) o tgt nxt) (hp : x = (0 : Int32) → Go p e below s Q kC kS T (mkF m tgt Ls S)) (hn : ¬ x = (0 : Int32) → Go p e below s Q kC kS T (mkF m nxt Ls S)) : Go p e below s Q kC kS T (mkF m pc Ls (.int x :: S)) := by
  by_cases h : x = (0 : Int32)
  · have g := hp h
    exact Go.step (fun _ k => XS.ifYes X.here C.1 rfl (pc0 := pc) (pc' := tgt) rfl (hb C.2.2.1 hd.1) rfl ((if0 _ _).trans (teq h).1) hd.2.1 hd.2.2.1 k) g
  · have g := hn h
    rw [hd.2.2.2] at g; exact Go.step (fun _ k => XS.ifNo X.here C.1 rfl (hb C.2.2.1 hd.1) rfl ((if0 _ _).trans (feq h).1) k) g
theorem wicmp_ne (C : Cur p l e s m meth c Z bc ml own nm rt) (X : Stand p l e R s m args below meth c T locs cells slots) {x y : Int32} {o : Int} {tgt nxt : Nat} (hd : DecJ bc pc (.if_icmp .ne o) o tgt nxt) (hp : x = y → Go p e below s Q kC kS T (mkF m nxt Ls S)) (hn : ¬ x = y → Go p e below s Q kC kS T (mkF m tgt Ls S)) : Go p e below s Q kC kS T (mkF m pc Ls (.int y :: .int x :: S)) := by
  by_cases h : x = y
  · have g := hp h
    rw [hd.2.2.2] at g; exact Go.step (fun _ k => XS.icmpNo X.here C.1 rfl (hb C.2.2.1 hd.1) rfl (teq h).2 k) g
  · have g := hn h
    exact Go.step (fun _ k => XS.icmpYes X.here C.1 rfl (pc0 := pc) (pc' := tgt) rfl (hb C.2.2.1 hd.1) rfl (feq h).2 hd.2.1 hd.2.2.1 k) g
theorem wif_ne (C : Cur p l e s m meth c Z bc ml own nm rt) (X : Stand p l e R s m args below meth c T locs cells slots) {x : Int32} {o : Int} {tgt nxt : Nat} (hd : DecJ bc pc (.ifCond .ne o) o tgt nxt) (hp : x = (0 : Int32) → Go p e below s Q kC kS T (mkF m nxt Ls S)) (hn : ¬ x = (0 : Int32) → Go p e below s Q kC kS T (mkF m tgt Ls S)) : Go p e below s Q kC kS T (mkF m pc Ls (.int x :: S)) := by
  by_cases h : x = (0 : Int32)
  · have g := hp h
    rw [hd.2.2.2] at g; exact Go.step (fun _ k => XS.ifNo X.here C.1 rfl (hb C.2.2.1 hd.1) rfl ((if0 _ _).trans (teq h).2) k) g
  · have g := hn h
    exact Go.step (fun _ k => XS.ifYes X.here C.1 rfl (pc0 := pc) (pc' := tgt) rfl (hb C.2.2.1 hd.1) rfl ((if0 _ _).trans (feq h).2) hd.2.1 hd.2.2.1 k) g
theorem wacmp_eq (C : Cur p l e s m meth c Z bc ml own nm rt) (X : Stand p l e R s m args below meth c T locs cells slots) {x y : Value} (h1 : x.isRef = true) (h2 : y.isRef = true) {o : Int} {tgt nxt : Nat} (hd : DecJ bc pc (.if_acmp .eq o) o tgt nxt) (hp : x = y → Go p e below s Q kC kS T (mkF m tgt Ls S)) (hn : ¬ x = y → Go p e below s Q kC kS T (mkF m nxt Ls S)) : Go p e below s Q kC kS T (mkF m pc Ls (y :: x :: S)) := by
  by_cases h : x = y
  · have g := hp h
    exact Go.step (fun _ k => Jvm.RoadKit.acmp X C.1 rfl h1 h2 (pc0 := pc) (pc' := tgt) (same := true) rfl (hb C.2.2.1 hd.1) rfl (decide_eq_true h) hd.2.1 (by rw [hd.2.2.1]; rfl) k) g
  · have g := hn h
    exact Go.step (fun _ k => Jvm.RoadKit.acmp X C.1 rfl h1 h2 (pc0 := pc) (pc' := nxt) (same := false) rfl (hb C.2.2.1 hd.1) rfl (decide_eq_false h) hd.2.1 (by rw [hd.2.2.2]; rfl) k) g
theorem wacmp_ne (C : Cur p l e s m meth c Z bc ml own nm rt) (X : Stand p l e R s m args below meth c T locs cells slots) {x y : Value} (h1 : x.isRef = true) (h2 : y.isRef = true) {o : Int} {tgt nxt : Nat} (hd : DecJ bc pc (.if_acmp .ne o) o tgt nxt) (hp : x = y → Go p e below s Q kC kS T (mkF m nxt Ls S)) (hn : ¬ x = y → Go p e below s Q kC kS T (mkF m tgt Ls S)) : Go p e below s Q kC kS T (mkF m pc Ls (y :: x :: S)) := by
  by_cases h : x = y
  · have g := hp h
    exact Go.step (fun _ k => Jvm.RoadKit.acmp X C.1 rfl h1 h2 (pc0 := pc) (pc' := nxt) (same := true) rfl (hb C.2.2.1 hd.1) rfl (decide_eq_true h) hd.2.1 (by rw [hd.2.2.2]; rfl) k) g
  · have g := hn h
    exact Go.step (fun _ k => Jvm.RoadKit.acmp X C.1 rfl h1 h2 (pc0 := pc) (pc' := tgt) (same := false) rfl (hb C.2.2.1 hd.1) rfl (decide_eq_false h) hd.2.1 (by rw [hd.2.2.1]; rfl) k) g
theorem wifnullY (C : Cur p l e s m meth c Z bc ml own nm rt) (X : Stand p l e R s m args below meth c T locs cells slots) {b : Addr} {o : Int} {tgt nxt : Nat} (hd : DecJ bc pc (.ifnull o) o tgt nxt) (g : Go p e below s Q kC kS T (mkF m tgt Ls S)) : Go p e below s Q kC kS T (mkF m pc Ls (.null :: S)) :=
  Go.step (fun _ k => XS.ifnullYes X.here C.1 rfl (pc0 := pc) (pc' := tgt) rfl (hb C.2.2.1 hd.1) rfl hd.2.1 hd.2.2.1 k) g
theorem wifnullN (C : Cur p l e s m meth c Z bc ml own nm rt) (X : Stand p l e R s m args below meth c T locs cells slots) {b : Addr} {o : Int} {tgt nxt : Nat} (hd : DecJ bc pc (.ifnull o) o tgt nxt) (g : Go p e below s Q kC kS T (mkF m nxt Ls S)) : Go p e below s Q kC kS T (mkF m pc Ls (.ref b :: S)) := by
  rw [hd.2.2.2] at g
  exact Go.step (fun _ k => XS.ifnullNo X.here C.1 rfl (hb C.2.2.1 hd.1) rfl k) g
theorem wifnonnullY (C : Cur p l e s m meth c Z bc ml own nm rt) (X : Stand p l e R s m args below meth c T locs cells slots) {b : Addr} {o : Int} {tgt nxt : Nat} (hd : DecJ bc pc (.ifnonnull o) o tgt nxt) (g : Go p e below s Q kC kS T (mkF m tgt Ls S)) : Go p e below s Q kC kS T (mkF m pc Ls (.ref b :: S)) :=
  Go.step (fun _ k => XS.ifnonnullYes X.here C.1 rfl (pc0 := pc) (pc' := tgt) rfl (hb C.2.2.1 hd.1) rfl hd.2.1 hd.2.2.1 k) g
theorem wifnonnullN (C : Cur p l e s m meth c Z bc ml own nm rt) (X : Stand p l e R s m args below meth c T locs cells slots) {b : Addr} {o : Int} {tgt nxt : Nat} (hd : DecJ bc pc (.ifnonnull o) o tgt nxt) (g : Go p e below s Q kC kS T (mkF m nxt Ls S)) : Go p e below s Q kC kS T (mkF m pc Ls (.null :: S)) := by
  rw [hd.2.2.2] at g
  exact Go.step (fun _ k => XS.ifnonnullNo X.here C.1 rfl (hb C.2.2.1 hd.1) rfl k) g
theorem wret (C : Cur p l e s m meth c Z bc ml own nm rt) (X : Stand p l e R s m args below meth c T locs cells slots) (hd : Dec bc pc .return_ 1 pc') (hrt : rt = none) (hk : cells ≤ kC) (hn : slots ≤ kS) (q : Q none T.heap locs) : Go p e below s Q kC kS T (mkF m pc Ls []) := by
  subst hrt
  obtain ⟨fs, hr, hrun, hended, hW, hsame⟩ := X.leave (v := none) (fun _ => rfl) C.2.2.2.2.2.2.1
  exact ⟨_, _, X.returnOut C.1 C.2.2.2.2.2.1 (hb C.2.2.1 hd.1) hr, hrun, hended, none, _, rfl, q, ⟨_, rfl⟩, hW, hsame.mono hk hn⟩
theorem wretV (C : Cur p l e s m meth c Z bc ml own nm rt) (X : Stand p l e R s m args below meth c T locs cells slots) {w : Value} {t : FieldType} {i : Instr} (hd : Dec bc pc i 1 pc') (hrt : rt = some t) (hnw : narrow t w = w)
    (hi : (i = .ireturn ∧ (t = .int ∨ t = .boolean ∨ t = .byte ∨ t = .char ∨ t = .short) ∧ ∃ z, w = .int z) ∨ (i = .lreturn ∧ t = .long ∧ ∃ z, w = .long z) ∨ (i = .dreturn ∧ t = .double ∧ ∃ z, w = .double z) ∨ (i = .freturn ∧ t = .float ∧ ∃ z, w = .float z) ∨ (i = .areturn ∧ t.isReference = true ∧ w.isRef = true))
    (hk : cells ≤ kC) (hn : slots ≤ kS) (q : Q (some w) T.heap locs) : Go p e below s Q kC kS T (mkF m pc Ls (w :: S)) := by
  subst hrt
  obtain ⟨fs, hr, hrun, hended, hW, hsame⟩ := X.leave (v := some w) (fun h => by rw [C.2.2.2.2.2.1] at h; cases h) C.2.2.2.2.2.2.1
  exact ⟨_, _, retOut X C.1 C.2.2.2.2.2.1 hnw hi (hb C.2.2.1 hd.1) hr, hrun, hended, some w, _, rfl, q, ⟨_, rfl⟩, hW, hsame.mono hk hn⟩
theorem wiret (C : Cur p l e s m meth c Z bc ml own nm rt) (X : Stand p l e R s m args below meth c T locs cells slots) {z : Int32} (hd : Dec bc pc .ireturn 1 pc') (hrt : rt = some .int) (hk : cells ≤ kC) (hn : slots ≤ kS) (q : Q (some (.int z)) T.heap locs) : Go p e below s Q kC kS T (mkF m pc Ls (.int z :: S)) :=
  wretV C X hd hrt rfl (Or.inl ⟨rfl, Or.inl rfl, z, rfl⟩) hk hn q
theorem wiretN (C : Cur p l e s m meth c Z bc ml own nm rt) (X : Stand p l e R s m args below meth c T locs cells slots) {z : Int32} {t : FieldType} (ht : t = .boolean ∨ t = .byte ∨ t = .char ∨ t = .short) (hd : Dec bc pc .ireturn 1 pc') (hrt : rt = some t) (z' : Int32) (hz : nar t z = z') (hk : cells ≤ kC) (hn : slots ≤ kS) (q : Q (some (.int z')) T.heap locs) : Go p e below s Q kC kS T (mkF m pc Ls (.int z :: S)) := by
  subst hrt hz
  obtain ⟨fs, hr, hrun, hended, hW, hsame⟩ := X.leave (v := some (.int (nar t z))) (fun h => by rw [C.2.2.2.2.2.1] at h; cases h) C.2.2.2.2.2.2.1
  exact ⟨_, _, retN X C.1 (t := t) C.2.2.2.2.2.1 ht (hb C.2.2.1 hd.1) hr, hrun, hended, some _, _, rfl, q, ⟨_, rfl⟩, hW, hsame.mono hk hn⟩
theorem wlret (C : Cur p l e s m meth c Z bc ml own nm rt) (X : Stand p l e R s m args below meth c T locs cells slots) {z : Int64} (hd : Dec bc pc .lreturn 1 pc') (hrt : rt = some .long) (hk : cells ≤ kC) (hn : slots ≤ kS) (q : Q (some (.long z)) T.heap locs) : Go p e below s Q kC kS T (mkF m pc Ls (.long z :: S)) :=
  wretV C X hd hrt rfl (Or.inr (Or.inl ⟨rfl, rfl, z, rfl⟩)) hk hn q
theorem wdret (C : Cur p l e s m meth c Z bc ml own nm rt) (X : Stand p l e R s m args below meth c T locs cells slots) {z : UInt64} (hd : Dec bc pc .dreturn 1 pc') (hrt : rt = some .double) (hk : cells ≤ kC) (hn : slots ≤ kS) (q : Q (some (.double z)) T.heap locs) : Go p e below s Q kC kS T (mkF m pc Ls (.double z :: S)) :=
  wretV C X hd hrt rfl (Or.inr (Or.inr (Or.inl ⟨rfl, rfl, z, rfl⟩))) hk hn q
theorem waret (C : Cur p l e s m meth c Z bc ml own nm rt) (X : Stand p l e R s m args below meth c T locs cells slots) {w : Value} {t : FieldType} (hd : Dec bc pc .areturn 1 pc') (hrt : rt = some t) (ht : t.isReference = true) (hw : w.isRef = true) (hnw : narrow t w = w) (hk : cells ≤ kC) (hn : slots ≤ kS) (q : Q (some w) T.heap locs) : Go p e below s Q kC kS T (mkF m pc Ls (w :: S)) :=
  wretV C X hd hrt hnw (Or.inr (Or.inr (Or.inr (Or.inr ⟨rfl, ht, hw⟩)))) hk hn q
theorem wget (C : Cur p l e s m meth c Z bc ml own nm rt) (X : Stand p l e R s m args below meth c T locs cells slots) {R0 O n d host : String} {index : Nat} (w : (Jvm.Cond.fieldLink own index R0 n d).before a0 Z = true ∨ (Jvm.Cond.fieldLinkNest own index R0 n d host).before a0 Z = true) (via : Via Z R0 O n d) (eT : T.heap = h) {a : Addr} {v : Value} (F : Fld Z h a O n d v) (hd : Dec bc pc (.getfield index) 3 pc')
    (K : ∀ T' : State, Stand p l e R s m args below meth c T' locs cells slots → T'.heap = h → Go p e below s Q kC kS T' (mkF m pc' Ls (v :: S))) : Go p e below s Q kC kS T (mkF m pc Ls (.ref a :: S)) := by
  obtain ⟨T', X', e', st⟩ := getF X C.1 C.2.1 C.2.2.2.2.1 w via eT F (g := mkF m pc Ls (.ref a :: S)) rfl rfl (hb C.2.2.1 hd.1)
  have k := K T' X' e'
  rw [hd.2] at k
  exact Go.step st k
theorem wgets (C : Cur p l e s m meth c Z bc ml own nm rt) (X : Stand p l e R s m args below meth c T locs cells slots) {R0 O n d host : String} {index : Nat} (w : (Jvm.Cond.fieldLink own index R0 n d).before a0 Z = true ∨ (Jvm.Cond.fieldLinkNest own index R0 n d host).before a0 Z = true) (via : Via Z R0 O n d) (eT : T.heap = h) {v : Value} (F : Sta Z h O n d v) (hd : Dec bc pc (.getstatic index) 3 pc')
    (K : ∀ T' : State, Stand p l e R s m args below meth c T' locs cells slots → T'.heap = h → Go p e below s Q kC kS T' (mkF m pc' Ls (v :: S))) : Go p e below s Q kC kS T (mkF m pc Ls S) := by
  obtain ⟨T', X', e', st⟩ := getS2 X C.1 C.2.1 C.2.2.2.2.1 w via eT F (g := mkF m pc Ls S) rfl (hb C.2.2.1 hd.1)
  have k := K T' X' e'
  rw [hd.2] at k
  exact Go.step st k
theorem wput (C : Cur p l e s m meth c Z bc ml own nm rt) (X : Stand p l e R s m args below meth c T locs cells slots) {R0 O n d host C0 : String} {index kk : Nat} {ty : FieldType} (w : (Jvm.Cond.fieldLink own index R0 n d).before a0 Z = true ∨ (Jvm.Cond.fieldLinkNest own index R0 n d host).before a0 Z = true) (via : Via Z R0 O n d) (eT : T.heap = h) {a : Addr} {v old : Value} (F : Fld Z h a O n d old) (E : Exa Z h a C0)
    (L : (Jvm.Cond.lays C0 O n d).before a0 Z = true ∨ ((Jvm.Cond.laysFinal C0 O n d).before a0 Z = true ∧ own = O ∧ nm = "<init>")) (wi : (Jvm.Cond.instantiable C0 kk).before a0 Z = true) (hty : parseFieldDescriptor d = some ty) (hn : narrow ty v = v) (hf : fits ty v = true) (hd : Dec bc pc (.putfield index) 3 pc')
    (K : ∀ (T' : State) (h' : Heap), Stand p l e R s m args below meth c T' (locs ++ [⟨a, Jvm.RoadKit.slotOf Z O n d⟩]) cells slots → T'.heap = h' → Wr h h' a (Jvm.RoadKit.slotOf Z O n d) v → Go p e below s Q kC kS T' (mkF m pc' Ls S)) : Go p e below s Q kC kS T (mkF m pc Ls (v :: .ref a :: S)) := by
  obtain ⟨T', h', X', e', W, st⟩ := putF X C.1 C.2.1 C.2.2.2.2.1 w via eT F E (L.imp id fun q => ⟨q.1, q.2.1, C.2.2.2.2.2.2.2.trans q.2.2⟩) wi hty hn hf (g := mkF m pc Ls (v :: .ref a :: S)) rfl rfl (hb C.2.2.1 hd.1)
  have k := K T' h' X' e' W
  rw [hd.2] at k
  exact Go.step st k
theorem wputN (C : Cur p l e s m meth c Z bc ml own nm rt) (X : Stand p l e R s m args below meth c T locs cells slots) {R0 O n d C0 : String} {index kk : Nat} {ty : FieldType} (w : (Jvm.Cond.fieldLink own index R0 n d).before a0 Z = true) (via : Via Z R0 O n d) (eT : T.heap = h) {a : Addr} {v old : Value} (F : Fld Z h a O n d old) (E : Exa Z h a C0)
    (L : (Jvm.Cond.lays C0 O n d).before a0 Z = true ∨ ((Jvm.Cond.laysFinal C0 O n d).before a0 Z = true ∧ own = O ∧ nm = "<init>")) (wi : (Jvm.Cond.instantiable C0 kk).before a0 Z = true) (hty : parseFieldDescriptor d = some ty) (v' : Value) (hn : narrow ty v = v') (hf : fits ty v' = true) (hd : Dec bc pc (.putfield index) 3 pc')
    (K : ∀ (T' : State) (h' : Heap), Stand p l e R s m args below meth c T' (locs ++ [⟨a, Jvm.RoadKit.slotOf Z O n d⟩]) cells slots → T'.heap = h' → Wr h h' a (Jvm.RoadKit.slotOf Z O n d) v' → Go p e below s Q kC kS T' (mkF m pc' Ls S)) : Go p e below s Q kC kS T (mkF m pc Ls (v :: .ref a :: S)) := by
  obtain ⟨T', h', X', e', W, st⟩ := putFN X C.1 C.2.1 C.2.2.2.2.1 w via eT F E (L.imp id fun q => ⟨q.1, q.2.1, C.2.2.2.2.2.2.2.trans q.2.2⟩) wi hty hn hf (g := mkF m pc Ls (v :: .ref a :: S)) rfl rfl (hb C.2.2.1 hd.1)
  have k := K T' h' X' e' W
  rw [hd.2] at k
  exact Go.step st k
theorem wnew (C : Cur p l e s m meth c Z bc ml own nm rt) (X : Stand p l e R s m args below meth c T locs cells slots) {C0 : String} {index n : Nat} (w : (Jvm.Cond.classLink own index C0).before a0 Z = true) (wi : (Jvm.Cond.instantiable C0 n).before a0 Z = true) (wz : (Jvm.Cond.initialized C0).before a0 Z = true) (eT : T.heap = h) (hd : Dec bc pc (.new index) 3 pc') (hc : cells + 1 ≤ R.cells) (hl : slots + n ≤ R.slots)
    (K : ∀ (T' : State) (h' : Heap) (a : Addr), a = h.size → Stand p l e R s m args below meth c T' locs (cells + 1) (slots + n) → T'.heap = h' → Ext h h' → Exa Z h' a C0 → (∀ {O nm d : String} {ty : FieldType}, Laid Z a0 C0 O nm d → parseFieldDescriptor d = some ty → Fld Z h' a O nm d (defaultValue ty)) → Go p e below s Q kC kS T' (mkF m pc' Ls (.ref a :: S))) : Go p e below s Q kC kS T (mkF m pc Ls S) := by
  obtain ⟨T', h', X', e', E, A, D, -, st⟩ := newO X C.1 C.2.1 C.2.2.2.2.1 w wi wz eT (g := mkF m pc Ls S) rfl (hb C.2.2.1 hd.1) hc hl
  have k := K T' h' _ rfl X' e' E A D
  rw [hd.2] at k
  exact Go.step st k
theorem wnewarr (C : Cur p l e s m meth c Z bc ml own nm rt) (X : Stand p l e R s m args below meth c T locs cells slots) {aty : ArrayType} (w : (Jvm.Cond.arrayClass (newarray.typeOf aty)).before a0 Z = true) (eT : T.heap = h) {n : Int32} (hd : Dec bc pc (.newarray aty) 2 pc') (hn : ¬ n < 0) {cap : Nat} (hcap : n.toNatClampNeg ≤ cap) (hb' : cap * 8 ≤ 536870912) (hc : cells + 1 ≤ R.cells) (hl : slots + cap ≤ R.slots)
    (K : ∀ (T' : State) (h' : Heap) (a : Addr) (k : ClassId), a = h.size → Stand p l e R s m args below meth c T' locs (cells + 1) (slots + cap) → T'.heap = h' → Ext h h' → Arv Z h' a k (newarray.typeOf aty) n [] (defaultValue (newarray.typeOf aty)) → Go p e below s Q kC kS T' (mkF m pc' Ls (.ref a :: S))) : Go p e below s Q kC kS T (mkF m pc Ls (.int n :: S)) := by
  obtain ⟨T', h', kA, X', e', E, A, st⟩ := newP X C.1 C.2.1 w eT (g := mkF m pc Ls (.int n :: S)) rfl (hb C.2.2.1 hd.1) rfl hn hcap hb' hc hl
  have k := K T' h' _ kA rfl X' e' E (Arv.new A hn)
  rw [hd.2] at k
  exact Go.step st k
theorem wiaload (C : Cur p l e s m meth c Z bc ml own nm rt) (X : Stand p l e R s m args below meth c T locs cells slots) (eT : T.heap = h) {a : Addr} {ka : ClassId} {n j : Int32} {vs : List Value} {dv : Value} (V : Arv Z h a ka .int n vs dv) (hd : Dec bc pc .iaload 1 pc') (hj : ¬ j < 0 ∧ j < n) {i : Nat} (hi : j.toNatClampNeg = i) {v : Int32} (hv : vs.getD i dv = .int v) (g : Go p e below s Q kC kS T (mkF m pc' Ls (.int v :: S))) : Go p e below s Q kC kS T (mkF m pc Ls (.int j :: .ref a :: S)) := by
  obtain ⟨cl, A, -, hS, -, hH, -⟩ := V
  have hin := inb_of hS hj
  rw [hd.2] at g
  exact Go.step (fun t k => X.iaload C.1 (by rw [eT]; exact A.1) (State.isArrayOf_alike C.2.1.alike A.2.1) A.2.2 hin (hH.at hin (by rw [hi]; exact hv)) (g := mkF m pc Ls (.int j :: .ref a :: S)) rfl rfl (hb C.2.2.1 hd.1) t k) g
theorem wlaload (C : Cur p l e s m meth c Z bc ml own nm rt) (X : Stand p l e R s m args below meth c T locs cells slots) (eT : T.heap = h) {a : Addr} {ka : ClassId} {n j : Int32} {vs : List Value} {dv : Value} (V : Arv Z h a ka .long n vs dv) (hd : Dec bc pc .laload 1 pc') (hj : ¬ j < 0 ∧ j < n) {i : Nat} (hi : j.toNatClampNeg = i) {v : Int64} (hv : vs.getD i dv = .long v) (g : Go p e below s Q kC kS T (mkF m pc' Ls (.long v :: S))) : Go p e below s Q kC kS T (mkF m pc Ls (.int j :: .ref a :: S)) := by
  obtain ⟨cl, A, -, hS, -, hH, -⟩ := V
  have hin := inb_of hS hj
  rw [hd.2] at g
  exact Go.step (fun t k => X.laload C.1 (by rw [eT]; exact A.1) (State.isArrayOf_alike C.2.1.alike A.2.1) A.2.2 hin (hH.at hin (by rw [hi]; exact hv)) (g := mkF m pc Ls (.int j :: .ref a :: S)) rfl rfl (hb C.2.2.1 hd.1) t k) g
theorem wdaload (C : Cur p l e s m meth c Z bc ml own nm rt) (X : Stand p l e R s m args below meth c T locs cells slots) (eT : T.heap = h) {a : Addr} {ka : ClassId} {n j : Int32} {vs : List Value} {dv : Value} (V : Arv Z h a ka .double n vs dv) (hd : Dec bc pc .daload 1 pc') (hj : ¬ j < 0 ∧ j < n) {i : Nat} (hi : j.toNatClampNeg = i) {v : UInt64} (hv : vs.getD i dv = .double v) (g : Go p e below s Q kC kS T (mkF m pc' Ls (.double v :: S))) : Go p e below s Q kC kS T (mkF m pc Ls (.int j :: .ref a :: S)) := by
  obtain ⟨cl, A, -, hS, -, hH, -⟩ := V
  have hin := inb_of hS hj
  rw [hd.2] at g
  exact Go.step (fun t k => X.daload C.1 (by rw [eT]; exact A.1) (State.isArrayOf_alike C.2.1.alike A.2.1) A.2.2 hin (hH.at hin (by rw [hi]; exact hv)) (g := mkF m pc Ls (.int j :: .ref a :: S)) rfl rfl (hb C.2.2.1 hd.1) t k) g
theorem wcaload (C : Cur p l e s m meth c Z bc ml own nm rt) (X : Stand p l e R s m args below meth c T locs cells slots) (eT : T.heap = h) {a : Addr} {ka : ClassId} {n j : Int32} {vs : List Value} {dv : Value} (V : Arv Z h a ka .char n vs dv) (hd : Dec bc pc .caload 1 pc') (hj : ¬ j < 0 ∧ j < n) {i : Nat} (hi : j.toNatClampNeg = i) {v : Int32} (hv : vs.getD i dv = .int v) (g : Go p e below s Q kC kS T (mkF m pc' Ls (.int v :: S))) : Go p e below s Q kC kS T (mkF m pc Ls (.int j :: .ref a :: S)) := by
  obtain ⟨cl, A, -, hS, -, hH, -⟩ := V
  have hin := inb_of hS hj
  rw [hd.2] at g
  exact Go.step (fun t k => X.caload C.1 (by rw [eT]; exact A.1) (State.isArrayOf_alike C.2.1.alike A.2.1) A.2.2 hin (hH.at hin (by rw [hi]; exact hv)) (g := mkF m pc Ls (.int j :: .ref a :: S)) rfl rfl (hb C.2.2.1 hd.1) t k) g
theorem wbaloadB (C : Cur p l e s m meth c Z bc ml own nm rt) (X : Stand p l e R s m args below meth c T locs cells slots) (eT : T.heap = h) {a : Addr} {ka : ClassId} {n j : Int32} {vs : List Value} {dv : Value} (V : Arv Z h a ka .byte n vs dv) (hd : Dec bc pc .baload 1 pc') (hj : ¬ j < 0 ∧ j < n) {i : Nat} (hi : j.toNatClampNeg = i) {v : Int32} (hv : vs.getD i dv = .int v) (g : Go p e below s Q kC kS T (mkF m pc' Ls (.int v :: S))) : Go p e below s Q kC kS T (mkF m pc Ls (.int j :: .ref a :: S)) := by
  obtain ⟨cl, A, -, hS, -, hH, -⟩ := V
  have hin := inb_of hS hj
  rw [hd.2] at g
  exact Go.step (fun t k => X.baloadBytes C.1 (by rw [eT]; exact A.1) (State.isArrayOf_alike C.2.1.alike A.2.1) A.2.2 hin (hH.at hin (by rw [hi]; exact hv)) (g := mkF m pc Ls (.int j :: .ref a :: S)) rfl rfl (hb C.2.2.1 hd.1) t k) g
theorem wbaloadZ (C : Cur p l e s m meth c Z bc ml own nm rt) (X : Stand p l e R s m args below meth c T locs cells slots) (eT : T.heap = h) {a : Addr} {ka : ClassId} {n j : Int32} {vs : List Value} {dv : Value} (V : Arv Z h a ka .boolean n vs dv) (hd : Dec bc pc .baload 1 pc') (hj : ¬ j < 0 ∧ j < n) {i : Nat} (hi : j.toNatClampNeg = i) {v : Int32} (hv : vs.getD i dv = .int v) (g : Go p e below s Q kC kS T (mkF m pc' Ls (.int v :: S))) : Go p e below s Q kC kS T (mkF m pc Ls (.int j :: .ref a :: S)) := by
  obtain ⟨cl, A, -, hS, -, hH, -⟩ := V
  have hin := inb_of hS hj
  rw [hd.2] at g
  exact Go.step (fun t k => X.baloadBooleans C.1 (by rw [eT]; exact A.1) (State.isArrayOf_alike C.2.1.alike A.2.1) A.2.2 hin (hH.at hin (by rw [hi]; exact hv)) (g := mkF m pc Ls (.int j :: .ref a :: S)) rfl rfl (hb C.2.2.1 hd.1) t k) g
theorem waaload (C : Cur p l e s m meth c Z bc ml own nm rt) (X : Stand p l e R s m args below meth c T locs cells slots) (eT : T.heap = h) {a : Addr} {ka : ClassId} {ty : FieldType} {n j : Int32} {vs : List Value} {dv : Value} (V : Arv Z h a ka ty n vs dv) (hty : ty.isReference = true) (hd : Dec bc pc .aaload 1 pc') (hj : ¬ j < 0 ∧ j < n) {i : Nat} (hi : j.toNatClampNeg = i) {v : Value} (hv : vs.getD i dv = v) (g : Go p e below s Q kC kS T (mkF m pc' Ls (v :: S))) : Go p e below s Q kC kS T (mkF m pc Ls (.int j :: .ref a :: S)) := by
  obtain ⟨cl, A, -, hS, -, hH, -⟩ := V
  have hin := inb_of hS hj
  rw [hd.2] at g
  exact Go.step (fun t k => X.aaload C.1 (by rw [eT]; exact A.1) (State.isArrayOf_alike C.2.1.alike A.2.1) hty A.2.2 hin (hH.at hin (by rw [hi]; exact hv)) (g := mkF m pc Ls (.int j :: .ref a :: S)) rfl rfl (hb C.2.2.1 hd.1) t k) g
theorem walen (C : Cur p l e s m meth c Z bc ml own nm rt) (X : Stand p l e R s m args below meth c T locs cells slots) (eT : T.heap = h) {a : Addr} {ka : ClassId} {ty : FieldType} {n : Int32} {vs : List Value} {dv : Value} (V : Arv Z h a ka ty n vs dv) (hd : Dec bc pc .arraylength 1 pc') (g : Go p e below s Q kC kS T (mkF m pc' Ls (.int n :: S))) : Go p e below s Q kC kS T (mkF m pc Ls (.ref a :: S)) := by
  obtain ⟨cl, A, -, hS, hN, -, -⟩ := V
  rw [hd.2] at g
  exact Go.step (fun t k => X.arraylength C.1 (by rw [eT]; exact A.1) (State.isArrayOf_alike C.2.1.alike A.2.1) (g := mkF m pc Ls (.ref a :: S)) rfl rfl (hb C.2.2.1 hd.1) t (by rw [len_of hS hN]; exact k)) g
theorem wiastore (C : Cur p l e s m meth c Z bc ml own nm rt) (X : Stand p l e R s m args below meth c T locs cells slots) (eT : T.heap = h) {a : Addr} {ka : ClassId} {n j : Int32} {x : Int32} {vs : List Value} {dv : Value} (V : Arv Z h a ka .int n vs dv) (hd : Dec bc pc .iastore 1 pc') (hj : ¬ j < 0 ∧ j < n) (i : Nat) (hi : j.toNatClampNeg = i) (hlt : i < vs.length) (vs' : List Value) (hs : vs.set i (.int x) = vs')
    (K : ∀ (T' : State) (h' : Heap) (sl : Nat) (w : Value), Stand p l e R s m args below meth c T' (locs ++ [⟨a, sl⟩]) cells slots → T'.heap = h' → Wr h h' a sl w → Arv Z h' a ka .int n vs' dv → Go p e below s Q kC kS T' (mkF m pc' Ls S)) : Go p e below s Q kC kS T (mkF m pc Ls (.int x :: .int j :: .ref a :: S)) := by
  obtain ⟨cl, A, hk, hS, hN, hH, hG⟩ := V
  have hin := inb_of hS hj
  obtain ⟨T', h', X', e', W, st⟩ := stI X C.1 C.2.1 eT A hin (g := mkF m pc Ls (.int x :: .int j :: .ref a :: S)) rfl rfl (hb C.2.2.1 hd.1)
  have V' := Arv.set A hk hS hN hH hG rfl W i hi hlt
  subst hs
  have k := K T' h' _ _ X' e' W V'
  rw [hd.2] at k
  exact Go.step st k
theorem wlastore (C : Cur p l e s m meth c Z bc ml own nm rt) (X : Stand p l e R s m args below meth c T locs cells slots) (eT : T.heap = h) {a : Addr} {ka : ClassId} {n j : Int32} {x : Int64} {vs : List Value} {dv : Value} (V : Arv Z h a ka .long n vs dv) (hd : Dec bc pc .lastore 1 pc') (hj : ¬ j < 0 ∧ j < n) (i : Nat) (hi : j.toNatClampNeg = i) (hlt : i < vs.length) (vs' : List Value) (hs : vs.set i (.long x) = vs')
    (K : ∀ (T' : State) (h' : Heap) (sl : Nat) (w : Value), Stand p l e R s m args below meth c T' (locs ++ [⟨a, sl⟩]) cells slots → T'.heap = h' → Wr h h' a sl w → Arv Z h' a ka .long n vs' dv → Go p e below s Q kC kS T' (mkF m pc' Ls S)) : Go p e below s Q kC kS T (mkF m pc Ls (.long x :: .int j :: .ref a :: S)) := by
  obtain ⟨cl, A, hk, hS, hN, hH, hG⟩ := V
  have hin := inb_of hS hj
  obtain ⟨T', h', X', e', W, st⟩ := stJ X C.1 C.2.1 eT A hin (g := mkF m pc Ls (.long x :: .int j :: .ref a :: S)) rfl rfl (hb C.2.2.1 hd.1)
  have V' := Arv.set A hk hS hN hH hG rfl W i hi hlt
  subst hs
  have k := K T' h' _ _ X' e' W V'
  rw [hd.2] at k
  exact Go.step st k
theorem wdastore (C : Cur p l e s m meth c Z bc ml own nm rt) (X : Stand p l e R s m args below meth c T locs cells slots) (eT : T.heap = h) {a : Addr} {ka : ClassId} {n j : Int32} {x : UInt64} {vs : List Value} {dv : Value} (V : Arv Z h a ka .double n vs dv) (hd : Dec bc pc .dastore 1 pc') (hj : ¬ j < 0 ∧ j < n) (i : Nat) (hi : j.toNatClampNeg = i) (hlt : i < vs.length) (vs' : List Value) (hs : vs.set i (.double x) = vs')
    (K : ∀ (T' : State) (h' : Heap) (sl : Nat) (w : Value), Stand p l e R s m args below meth c T' (locs ++ [⟨a, sl⟩]) cells slots → T'.heap = h' → Wr h h' a sl w → Arv Z h' a ka .double n vs' dv → Go p e below s Q kC kS T' (mkF m pc' Ls S)) : Go p e below s Q kC kS T (mkF m pc Ls (.double x :: .int j :: .ref a :: S)) := by
  obtain ⟨cl, A, hk, hS, hN, hH, hG⟩ := V
  have hin := inb_of hS hj
  obtain ⟨T', h', X', e', W, st⟩ := stD X C.1 C.2.1 eT A hin (g := mkF m pc Ls (.double x :: .int j :: .ref a :: S)) rfl rfl (hb C.2.2.1 hd.1)
  have V' := Arv.set A hk hS hN hH hG rfl W i hi hlt
  subst hs
  have k := K T' h' _ _ X' e' W V'
  rw [hd.2] at k
  exact Go.step st k
theorem wcastore (C : Cur p l e s m meth c Z bc ml own nm rt) (X : Stand p l e R s m args below meth c T locs cells slots) (eT : T.heap = h) {a : Addr} {ka : ClassId} {n j : Int32} {x : Int32} {vs : List Value} {dv : Value} (V : Arv Z h a ka .char n vs dv) (hd : Dec bc pc .castore 1 pc') (hj : ¬ j < 0 ∧ j < n) (i : Nat) (hi : j.toNatClampNeg = i) (hlt : i < vs.length) (vs' : List Value) (hs : vs.set i (.int (nar .char x)) = vs')
    (K : ∀ (T' : State) (h' : Heap) (sl : Nat) (w : Value), Stand p l e R s m args below meth c T' (locs ++ [⟨a, sl⟩]) cells slots → T'.heap = h' → Wr h h' a sl w → Arv Z h' a ka .char n vs' dv → Go p e below s Q kC kS T' (mkF m pc' Ls S)) : Go p e below s Q kC kS T (mkF m pc Ls (.int x :: .int j :: .ref a :: S)) := by
  obtain ⟨cl, A, hk, hS, hN, hH, hG⟩ := V
  have hin := inb_of hS hj
  obtain ⟨T', h', X', e', W, st⟩ := stC X C.1 C.2.1 eT A hin (g := mkF m pc Ls (.int x :: .int j :: .ref a :: S)) rfl rfl (hb C.2.2.1 hd.1)
  have V' := Arv.set A hk hS hN hH hG (fits_nar_char _) W i hi hlt
  subst hs
  have k := K T' h' _ _ X' e' W V'
  rw [hd.2] at k
  exact Go.step st k
theorem wbastoreB (C : Cur p l e s m meth c Z bc ml own nm rt) (X : Stand p l e R s m args below meth c T locs cells slots) (eT : T.heap = h) {a : Addr} {ka : ClassId} {n j : Int32} {x : Int32} {vs : List Value} {dv : Value} (V : Arv Z h a ka .byte n vs dv) (hd : Dec bc pc .bastore 1 pc') (hj : ¬ j < 0 ∧ j < n) (i : Nat) (hi : j.toNatClampNeg = i) (hlt : i < vs.length) (vs' : List Value) (hs : vs.set i (.int x.toInt8.toInt32) = vs')
    (K : ∀ (T' : State) (h' : Heap) (sl : Nat) (w : Value), Stand p l e R s m args below meth c T' (locs ++ [⟨a, sl⟩]) cells slots → T'.heap = h' → Wr h h' a sl w → Arv Z h' a ka .byte n vs' dv → Go p e below s Q kC kS T' (mkF m pc' Ls S)) : Go p e below s Q kC kS T (mkF m pc Ls (.int x :: .int j :: .ref a :: S)) := by
  obtain ⟨cl, A, hk, hS, hN, hH, hG⟩ := V
  have hin := inb_of hS hj
  obtain ⟨T', h', X', e', W, st⟩ := stB X C.1 C.2.1 eT A hin (g := mkF m pc Ls (.int x :: .int j :: .ref a :: S)) rfl rfl (hb C.2.2.1 hd.1)
  have V' := Arv.set A hk hS hN hH hG (fits_nar_byte _) W i hi hlt
  subst hs
  have k := K T' h' _ _ X' e' W V'
  rw [hd.2] at k
  exact Go.step st k
theorem wbastoreZ (C : Cur p l e s m meth c Z bc ml own nm rt) (X : Stand p l e R s m args below meth c T locs cells slots) (eT : T.heap = h) {a : Addr} {ka : ClassId} {n j : Int32} {x : Int32} {vs : List Value} {dv : Value} (V : Arv Z h a ka .boolean n vs dv) (hd : Dec bc pc .bastore 1 pc') (hj : ¬ j < 0 ∧ j < n) (i : Nat) (hi : j.toNatClampNeg = i) (hlt : i < vs.length) (vs' : List Value) (hs : vs.set i (.int (nar .boolean x)) = vs')
    (K : ∀ (T' : State) (h' : Heap) (sl : Nat) (w : Value), Stand p l e R s m args below meth c T' (locs ++ [⟨a, sl⟩]) cells slots → T'.heap = h' → Wr h h' a sl w → Arv Z h' a ka .boolean n vs' dv → Go p e below s Q kC kS T' (mkF m pc' Ls S)) : Go p e below s Q kC kS T (mkF m pc Ls (.int x :: .int j :: .ref a :: S)) := by
  obtain ⟨cl, A, hk, hS, hN, hH, hG⟩ := V
  have hin := inb_of hS hj
  obtain ⟨T', h', X', e', W, st⟩ := stZ X C.1 C.2.1 eT A hin (g := mkF m pc Ls (.int x :: .int j :: .ref a :: S)) rfl rfl (hb C.2.2.1 hd.1)
  have V' := Arv.set A hk hS hN hH hG (fits_nar_bool _) W i hi hlt
  subst hs
  have k := K T' h' _ _ X' e' W V'
  rw [hd.2] at k
  exact Go.step st k
theorem winitO (C : Cur p l e s m meth c Z bc ml own nm rt) (X : Stand p l e R s m args below meth c T locs cells slots) {index : Nat} (w1 : (Jvm.Cond.methodLink own index Lib.objectInit).before a0 Z = true) (w2 : (Jvm.Cond.instanceMethod Lib.objectInit).before a0 Z = true) (w3 : (Jvm.Cond.code Lib.objectInit ⟨#[0xb1]⟩ 1 none).before a0 Z = true) (eT : T.heap = h) {a : Addr} (hd : Dec bc pc (.invokespecial index) 3 pc') (hsz : Ls.size = ml) (hf : 1 ≤ R.frames) {W : Nat} (hW : (S.map fun v => v.category).sum ≤ W) (hl : W + 12 ≤ R.locals)
    (K : ∀ T' : State, Stand p l e R s m args below meth c T' locs cells slots → T'.heap = h → Go p e below s Q kC kS T' (mkF m pc' Ls S)) : Go p e below s Q kC kS T (mkF m pc Ls (.ref a :: S)) := by
  obtain ⟨T', X', e', st⟩ := initO X C.1 C.2.1 C.2.2.2.2.1 w1 w2 w3 eT (g := mkF m pc Ls (.ref a :: S)) rfl (hsz.trans C.2.2.2.1.symm) rfl (hb C.2.2.1 hd.1) hf (W := W) (by show 2 * 0 + _ ≤ _; simpa using hW) hl
  have k := K T' X' e'
  rw [hd.2] at k
  exact Go.step st k
theorem wspecial (C : Cur p l e s m meth c Z bc ml own nm rt) (X : Stand p l e R s m args below meth c T locs cells slots) {y : MethodName} {bytes : ByteArray} {maxL : Nat} {ret : Option FieldType} {rm : Room} {as' : Array Value} {Qc : Option Value → Heap → List Loc → Prop} {index : Nat} (hy1 : y.name = "<init>") (w1 : (Jvm.Cond.methodLink own index y).before a0 Z = true) (w2 : (Jvm.Cond.instanceMethod y).before a0 Z = true) (w3 : (Jvm.Cond.code y bytes maxL ret).before a0 Z = true) (w4 : (Jvm.Cond.initialized y.cls).before a0 Z = true) (hret : ret = none) (hy : y.cls ≠ "java/lang/invoke/MethodHandle" ∧ y.cls ≠ "java/lang/invoke/VarHandle")
    (hM : MetFree l y (head1 [Jvm.Cond.code y bytes maxL ret] rm) (fun a U => a = as' ∧ Z.Warmed39 U.vm ∧ U.heap = h) (fun _ _ _ _ _ => True) (fun _ U o U' => ∃ v L, o = .returned v ∧ Qc v U'.heap L ∧ FrameEnd U o U' L rm.cells rm.slots)) (eT : T.heap = h) (hd : Dec bc pc (.invokespecial index) 3 pc') {a : Addr} {argsL rest St : List Value} (has : as' = (.ref a :: argsL).toArray) (hst : St = argsL.reverse ++ .ref a :: rest) (hlen : ∀ sig, parseMethodDescriptor y.desc = some sig → argsL.length = sig.parameters.length) (hsz : Ls.size = ml) {W : Nat} (hW : (rest.map fun v => v.category).sum ≤ W) (hf : rm.frames + 1 ≤ R.frames) (hl : W + (maxL + 11) + rm.locals ≤ R.locals) (hc : cells + rm.cells ≤ R.cells) (hs : slots + rm.slots ≤ R.slots)
    (K : ∀ (v : Option Value) (T' : State) (L' : List Loc), Stand p l e R s m args below meth c T' (locs ++ L') (cells + rm.cells) (slots + rm.slots) → Qc v T'.heap L' → Go p e below s Q kC kS T' (mkF m pc' Ls (v.toList ++ rest))) : Go p e below s Q kC kS T (mkF m pc Ls St) := by
  subst hret
  obtain ⟨v, _, ⟨T', L', k', n'⟩, -, X', ⟨Lc, hQ, l', y', z'⟩, st⟩ := X.specialBack C.1 (y := y) hy1 C.2.2.2.2.1 (mvT C.2.1 w1) (mvT C.2.1 w2) (mvT C.2.1 w3) hy (backOf (W := W) hM C.2.1 w3 w4 hf hl) (g := mkF m pc Ls St) rfl (hsz.trans C.2.2.2.1.symm) (Steps.refl _) (a := a) (argsL := argsL) (rest := rest) hlen hst (by show 2 * 0 + _ ≤ _; simpa using hW) (hb C.2.2.1 hd.1) (fun _ _ => ⟨has.symm, eT, hc, hs⟩)
  dsimp only [Pt.U, Pt.locs, Pt.cells, Pt.slots] at X' l' y' z' st hQ
  subst l' y' z'
  have k := K v T' Lc X' hQ
  rw [hd.2] at k
  exact Go.step (fun t k => st.trans k) k
theorem wvirtual (C : Cur p l e s m meth c Z bc ml own nm rt) (X : Stand p l e R s m args below meth c T locs cells slots) {y z : MethodName} {C0 : String} {bytes : ByteArray} {maxL : Nat} {ret : Option FieldType} {rm : Room} {as' : Array Value} {Qc : Option Value → Heap → List Loc → Prop} {index : Nat} (w1 : (Jvm.Cond.methodLink own index y).before a0 Z = true) (w2 : (Jvm.Cond.declares y).before a0 Z = true) (hnf : NotFace s y) (w3 : (Jvm.Cond.selects C0 y z).before a0 Z = true) (w4 : (Jvm.Cond.instanceMethod z).before a0 Z = true) (w5 : (Jvm.Cond.code z bytes maxL ret).before a0 Z = true) (w6 : (Jvm.Cond.initialized z.cls).before a0 Z = true) (hy : y.cls ≠ "java/lang/invoke/MethodHandle" ∧ y.cls ≠ "java/lang/invoke/VarHandle")
    (hM : MetFree l z (head1 [Jvm.Cond.code z bytes maxL ret] rm) (fun a U => a = as' ∧ Z.Warmed39 U.vm ∧ U.heap = h) (fun _ _ _ _ _ => True) (fun _ U o U' => ∃ v L, o = .returned v ∧ Qc v U'.heap L ∧ FrameEnd U o U' L rm.cells rm.slots)) (eT : T.heap = h) {a : Addr} (E : Exa Z h a C0) (hd : Dec bc pc (.invokevirtual index) 3 pc') {argsL rest St : List Value} (has : as' = (.ref a :: argsL).toArray) (hst : St = argsL.reverse ++ .ref a :: rest) (hlen : ∀ sig, parseMethodDescriptor y.desc = some sig → argsL.length = sig.parameters.length) (hsz : Ls.size = ml) {W : Nat} (hW : (rest.map fun v => v.category).sum ≤ W) (hf : rm.frames + 1 ≤ R.frames) (hl : W + (maxL + 11) + rm.locals ≤ R.locals) (hc : cells + rm.cells ≤ R.cells) (hs : slots + rm.slots ≤ R.slots)
    (K : ∀ (v : Option Value) (T' : State) (L' : List Loc), Stand p l e R s m args below meth c T' (locs ++ L') (cells + rm.cells) (slots + rm.slots) → Qc v T'.heap L' → Go p e below s Q kC kS T' (mkF m pc' Ls (v.toList ++ rest))) : Go p e below s Q kC kS T (mkF m pc Ls St) := by
  obtain ⟨cB, kB, q1, q2, q3⟩ := isOf C.2.1 eT E
  obtain ⟨v, _, ⟨T', L', k', n'⟩, -, X', ⟨Lc, hQ, l', y', z'⟩, st⟩ := X.virtualBack C.1 (y := y) (z := z) C.2.2.2.2.1 (mvT C.2.1 w1) (mvT C.2.1 w2) hnf (mvT C.2.1 w3) (mvT C.2.1 w4) hy (backOf (W := W) hM C.2.1 w5 w6 hf hl) q1 q3 (g := mkF m pc Ls St) rfl (hsz.trans C.2.2.2.1.symm) (Steps.refl _) (argsL := argsL) (rest := rest) hlen hst (by show 2 * 0 + _ ≤ _; simpa using hW) (hb C.2.2.1 hd.1) (fun _ _ => ⟨has.symm, eT, hc, hs⟩)
  dsimp only [Pt.U, Pt.locs, Pt.cells, Pt.slots] at X' l' y' z' st hQ
  subst l' y' z'
  have k := K v T' Lc X' hQ
  rw [hd.2] at k
  exact Go.step (fun t k => st.trans k) k
theorem own_selp {y : MethodName} {nI : Nat} (hZ : Z.Warmed39 s.vm) (wi : (Jvm.Cond.instantiable y.cls nI).before a0 Z = true) (wp : (Jvm.Cond.privateMethod y).before a0 Z = true) (w2 : (Jvm.Cond.instanceMethod y).before a0 Z = true) (hy : y.cls ≠ "java/lang/invoke/MethodHandle" ∧ y.cls ≠ "java/lang/invoke/VarHandle") : (Jvm.Cond.selects y.cls y y).before args s = true := by
  obtain ⟨c', k', h1, h2, -, h4, -⟩ := Cond.instantiable_spec (mvT (args := args) hZ wi)
  exact selects_self_of_private h1 h2 (by simp only [Bool.or_eq_false_iff] at h4; exact h4.1) (Cond.privateMethod_at (mvP hZ wp (args := args))) (mvT hZ w2) hy
theorem wprivate (C : Cur p l e s m meth c Z bc ml own nm rt) (X : Stand p l e R s m args below meth c T locs cells slots) {y : MethodName} {bytes : ByteArray} {maxL : Nat} {ret : Option FieldType} {rm : Room} {as' : Array Value} {Qc : Option Value → Heap → List Loc → Prop} {index : Nat} (w1 : (Jvm.Cond.methodLink own index y).before a0 Z = true) (w2 : (Jvm.Cond.instanceMethod y).before a0 Z = true) (w3 : (Jvm.Cond.selects y.cls y y).before a0 Z = true) (w4 : (Jvm.Cond.privateMethod y).before a0 Z = true) (w5 : (Jvm.Cond.code y bytes maxL ret).before a0 Z = true) (w6 : (Jvm.Cond.initialized y.cls).before a0 Z = true) (hy : y.cls ≠ "java/lang/invoke/MethodHandle" ∧ y.cls ≠ "java/lang/invoke/VarHandle")
    (hM : MetFree l y (head1 [Jvm.Cond.code y bytes maxL ret] rm) (fun a U => a = as' ∧ Z.Warmed39 U.vm ∧ U.heap = h) (fun _ _ _ _ _ => True) (fun _ U o U' => ∃ v L, o = .returned v ∧ Qc v U'.heap L ∧ FrameEnd U o U' L rm.cells rm.slots)) (eT : T.heap = h) {a : Addr} {C0 : String} (E : Exa Z h a C0) (hd : Dec bc pc (.invokevirtual index) 3 pc') {argsL rest St : List Value} (has : as' = (.ref a :: argsL).toArray) (hst : St = argsL.reverse ++ .ref a :: rest) (hlen : ∀ sig, parseMethodDescriptor y.desc = some sig → argsL.length = sig.parameters.length) (hsz : Ls.size = ml) {W : Nat} (hW : (rest.map fun v => v.category).sum ≤ W) (hf : rm.frames + 1 ≤ R.frames) (hl : W + (maxL + 11) + rm.locals ≤ R.locals) (hc : cells + rm.cells ≤ R.cells) (hs : slots + rm.slots ≤ R.slots)
    (K : ∀ (v : Option Value) (T' : State) (L' : List Loc), Stand p l e R s m args below meth c T' (locs ++ L') (cells + rm.cells) (slots + rm.slots) → Qc v T'.heap L' → Go p e below s Q kC kS T' (mkF m pc' Ls (v.toList ++ rest))) : Go p e below s Q kC kS T (mkF m pc Ls St) := by
  obtain ⟨cq, q1, q2⟩ := E.cell
  obtain ⟨v, _, ⟨T', L', k', n'⟩, -, X', ⟨Lc, hQ, l', y', z'⟩, st⟩ := X.privateBack C.1 (y := y) C.2.2.2.2.1 (mvT C.2.1 w1) (mvT C.2.1 w2) (mvT C.2.1 w3) (Cond.privateMethod_at (mvP C.2.1 w4 (args := #[]))) (mvT C.2.1 w5) hy (backOf (W := W) hM C.2.1 w5 w6 hf hl) (g := mkF m pc Ls St) rfl (hsz.trans C.2.2.2.1.symm) (Steps.refl _) (a := a) (by rw [eT]; exact q1) q2 (argsL := argsL) (rest := rest) hlen hst (by show 2 * 0 + _ ≤ _; simpa using hW) (hb C.2.2.1 hd.1) (fun _ _ => ⟨has.symm, eT, hc, hs⟩)
  dsimp only [Pt.U, Pt.locs, Pt.cells, Pt.slots] at X' l' y' z' st hQ
  subst l' y' z'
  have k := K v T' Lc X' hQ
  rw [hd.2] at k
  exact Go.step (fun t k => st.trans k) k
theorem wprivateI (C : Cur p l e s m meth c Z bc ml own nm rt) (X : Stand p l e R s m args below meth c T locs cells slots) {y : MethodName} {bytes : ByteArray} {maxL : Nat} {ret : Option FieldType} {rm : Room} {as' : Array Value} {Qc : Option Value → Heap → List Loc → Prop} {index : Nat} (w1 : (Jvm.Cond.methodLink own index y).before a0 Z = true) (w2 : (Jvm.Cond.instanceMethod y).before a0 Z = true) {nI : Nat} (w3 : (Jvm.Cond.instantiable y.cls nI).before a0 Z = true) (w4 : (Jvm.Cond.privateMethod y).before a0 Z = true) (w5 : (Jvm.Cond.code y bytes maxL ret).before a0 Z = true) (w6 : (Jvm.Cond.initialized y.cls).before a0 Z = true) (hy : y.cls ≠ "java/lang/invoke/MethodHandle" ∧ y.cls ≠ "java/lang/invoke/VarHandle")
    (hM : MetFree l y (head1 [Jvm.Cond.code y bytes maxL ret] rm) (fun a U => a = as' ∧ Z.Warmed39 U.vm ∧ U.heap = h) (fun _ _ _ _ _ => True) (fun _ U o U' => ∃ v L, o = .returned v ∧ Qc v U'.heap L ∧ FrameEnd U o U' L rm.cells rm.slots)) (eT : T.heap = h) {a : Addr} {C0 : String} (E : Exa Z h a C0) (hd : Dec bc pc (.invokevirtual index) 3 pc') {argsL rest St : List Value} (has : as' = (.ref a :: argsL).toArray) (hst : St = argsL.reverse ++ .ref a :: rest) (hlen : ∀ sig, parseMethodDescriptor y.desc = some sig → argsL.length = sig.parameters.length) (hsz : Ls.size = ml) {W : Nat} (hW : (rest.map fun v => v.category).sum ≤ W) (hf : rm.frames + 1 ≤ R.frames) (hl : W + (maxL + 11) + rm.locals ≤ R.locals) (hc : cells + rm.cells ≤ R.cells) (hs : slots + rm.slots ≤ R.slots)
    (K : ∀ (v : Option Value) (T' : State) (L' : List Loc), Stand p l e R s m args below meth c T' (locs ++ L') (cells + rm.cells) (slots + rm.slots) → Qc v T'.heap L' → Go p e below s Q kC kS T' (mkF m pc' Ls (v.toList ++ rest))) : Go p e below s Q kC kS T (mkF m pc Ls St) := by
  obtain ⟨cq, q1, q2⟩ := E.cell
  obtain ⟨v, _, ⟨T', L', k', n'⟩, -, X', ⟨Lc, hQ, l', y', z'⟩, st⟩ := X.privateBack C.1 (y := y) C.2.2.2.2.1 (mvT C.2.1 w1) (mvT C.2.1 w2) (own_selp C.2.1 w3 w4 w2 hy) (Cond.privateMethod_at (mvP C.2.1 w4 (args := #[]))) (mvT C.2.1 w5) hy (backOf (W := W) hM C.2.1 w5 w6 hf hl) (g := mkF m pc Ls St) rfl (hsz.trans C.2.2.2.1.symm) (Steps.refl _) (a := a) (by rw [eT]; exact q1) q2 (argsL := argsL) (rest := rest) hlen hst (by show 2 * 0 + _ ≤ _; simpa using hW) (hb C.2.2.1 hd.1) (fun _ _ => ⟨has.symm, eT, hc, hs⟩)
  dsimp only [Pt.U, Pt.locs, Pt.cells, Pt.slots] at X' l' y' z' st hQ
  subst l' y' z'
  have k := K v T' Lc X' hQ
  rw [hd.2] at k
  exact Go.step (fun t k => st.trans k) k
theorem wstatic (C : Cur p l e s m meth c Z bc ml own nm rt) (X : Stand p l e R s m args below meth c T locs cells slots) {y : MethodName} {bytes : ByteArray} {maxL : Nat} {ret : Option FieldType} {rm : Room} {as' : Array Value} {Qc : Option Value → Heap → List Loc → Prop} {index : Nat} (w1 : (Jvm.Cond.methodLink own index y).before a0 Z = true) (w2 : (Jvm.Cond.static y).before a0 Z = true) (w3 : (Jvm.Cond.initialized y.cls).before a0 Z = true) (w4 : (Jvm.Cond.code y bytes maxL ret).before a0 Z = true) (hy : y.cls ≠ "java/lang/invoke/MethodHandle" ∧ y.cls ≠ "java/lang/invoke/VarHandle")
    (hM : MetFree l y (head1 [Jvm.Cond.code y bytes maxL ret] rm) (fun a U => a = as' ∧ Z.Warmed39 U.vm ∧ U.heap = h) (fun _ _ _ _ _ => True) (fun _ U o U' => ∃ v L, o = .returned v ∧ Qc v U'.heap L ∧ FrameEnd U o U' L rm.cells rm.slots)) (eT : T.heap = h) (hd : Dec bc pc (.invokestatic index) 3 pc') {argsL rest St : List Value} (has : as' = argsL.toArray) (hst : St = argsL.reverse ++ rest) (hlen : ∀ sig, parseMethodDescriptor y.desc = some sig → argsL.length = sig.parameters.length) (hsz : Ls.size = ml) {W : Nat} (hW : (rest.map fun v => v.category).sum ≤ W) (hf : rm.frames + 1 ≤ R.frames) (hl : W + (maxL + 11) + rm.locals ≤ R.locals) (hc : cells + rm.cells ≤ R.cells) (hs : slots + rm.slots ≤ R.slots)
    (K : ∀ (v : Option Value) (T' : State) (L' : List Loc), Stand p l e R s m args below meth c T' (locs ++ L') (cells + rm.cells) (slots + rm.slots) → Qc v T'.heap L' → Go p e below s Q kC kS T' (mkF m pc' Ls (v.toList ++ rest))) : Go p e below s Q kC kS T (mkF m pc Ls St) := by
  obtain ⟨v, _, ⟨T', L', k', n'⟩, -, X', ⟨Lc, hQ, l', y', z'⟩, st⟩ := Jvm.LawKit.callS X C.1 (y := y) C.2.2.2.2.1 (mvT C.2.1 w1) (mvT C.2.1 w2) (mvT C.2.1 w3) (mvT C.2.1 w4) hy (backOf (W := W) hM C.2.1 w4 w3 hf hl) (g := mkF m pc Ls St) rfl (hsz.trans C.2.2.2.1.symm) (argsL := argsL) (rest := rest) hlen hst (by show 2 * 0 + _ ≤ _; simpa using hW) (hb C.2.2.1 hd.1) (fun _ _ => ⟨has.symm, eT, hc, hs⟩)
  dsimp only [Pt.U, Pt.locs, Pt.cells, Pt.slots] at X' l' y' z' st hQ
  subst l' y' z'
  have k := K v T' Lc X' hQ
  rw [hd.2] at k
  exact Go.step (st) k
theorem Go.mono {Q' : Option Value → Heap → List Loc → Prop} {f : JFrame} (g : Go p e below s Q kC kS T f) (q : ∀ v h L, Q v h L → Q' v h L) : Go p e below s Q' kC kS T f := by
  obtain ⟨s₂, o, h1, h2, h3, v, L, h4, h5, h6⟩ := g; exact ⟨s₂, o, h1, h2, h3, v, L, h4, q _ _ _ h5, h6⟩
theorem wldcI (C : Cur p l e s m meth c Z bc ml own nm rt) (X : Stand p l e R s m args below meth c T locs cells slots) {index : Nat} {b : Int32} (w : (Jvm.Cond.constant own index b).before a0 Z = true) (hd : Dec bc pc (.ldc index) 2 pc') (g : Go p e below s Q kC kS T (mkF m pc' Ls (.int b :: S))) : Go p e below s Q kC kS T (mkF m pc Ls S) := by
  rw [hd.2] at g
  exact Go.step (X.ldcInt C.1 C.2.2.2.2.1 (mvT C.2.1 w) (g := mkF m pc Ls S) rfl (hb C.2.2.1 hd.1)) g
theorem wldcwI (C : Cur p l e s m meth c Z bc ml own nm rt) (X : Stand p l e R s m args below meth c T locs cells slots) {index : Nat} {b : Int32} (w : (Jvm.Cond.constant own index b).before a0 Z = true) (hd : Dec bc pc (.ldc_w index) 3 pc') (g : Go p e below s Q kC kS T (mkF m pc' Ls (.int b :: S))) : Go p e below s Q kC kS T (mkF m pc Ls S) := by
  rw [hd.2] at g
  exact Go.step (X.ldcwInt C.1 C.2.2.2.2.1 (mvT C.2.1 w) (g := mkF m pc Ls S) rfl (hb C.2.2.1 hd.1)) g
theorem wldc2J (C : Cur p l e s m meth c Z bc ml own nm rt) (X : Stand p l e R s m args below meth c T locs cells slots) {index : Nat} {b : Int64} (w : (Jvm.Cond.constantLong own index b).before a0 Z = true) (hd : Dec bc pc (.ldc2_w index) 3 pc') (g : Go p e below s Q kC kS T (mkF m pc' Ls (.long b :: S))) : Go p e below s Q kC kS T (mkF m pc Ls S) := by
  rw [hd.2] at g
  exact Go.step (X.ldc2Long C.1 C.2.2.2.2.1 (mvT C.2.1 w) (g := mkF m pc Ls S) rfl (hb C.2.2.1 hd.1)) g
theorem wldc2D (C : Cur p l e s m meth c Z bc ml own nm rt) (X : Stand p l e R s m args below meth c T locs cells slots) {index : Nat} {b : UInt64} (w : (Jvm.Cond.constantDouble own index b).before a0 Z = true) (hd : Dec bc pc (.ldc2_w index) 3 pc') (g : Go p e below s Q kC kS T (mkF m pc' Ls (.double b :: S))) : Go p e below s Q kC kS T (mkF m pc Ls S) := by
  rw [hd.2] at g
  exact Go.step (X.ldc2DoubleC C.1 C.2.2.2.2.1 (mvT C.2.1 w) (g := mkF m pc Ls S) rfl (hb C.2.2.1 hd.1)) g
theorem wmaxD (C : Cur p l e s m meth c Z bc ml own nm rt) (X : Stand p l e R s m args below meth c T locs cells slots) {index : Nat} {x y : UInt64} (w1 : (Jvm.Cond.methodLink own index Jvm.Free.Fl.Abs.maxDN).before a0 Z = true) (w2 : (Jvm.Cond.static Jvm.Free.Fl.Abs.maxDN).before a0 Z = true) (w3 : (Jvm.Cond.initialized Jvm.Free.Fl.Abs.maxDN.cls).before a0 Z = true) (w4 : (Jvm.Cond.code Jvm.Free.Fl.Abs.maxDN Jvm.Free.Fl.Abs.maxDCode 4 (some .double)).before a0 Z = true)
    (eT : T.heap = h) (hd : Dec bc pc (.invokestatic index) 3 pc') (nx : Jvm.Free.Fl.NoNaN64 x) (ny : Jvm.Free.Fl.NoNaN64 y) (hsz : Ls.size = ml) {W : Nat} (hW : (S.map fun v => v.category).sum ≤ W) (hf : 1 ≤ R.frames) (hl : W + 15 ≤ R.locals) (hc : cells ≤ R.cells) (hs : slots ≤ R.slots)
    (K : ∀ T' : State, Stand p l e R s m args below meth c T' locs cells slots → T'.heap = h → Go p e below s Q kC kS T' (mkF m pc' Ls (.double (Jvm.Native.java_lang_Math.nans.pick64 true x y) :: S))) : Go p e below s Q kC kS T (mkF m pc Ls (.double y :: .double x :: S)) := by
  obtain ⟨T', X', e', st⟩ := natS X C.1 C.2.1 C.2.2.2.2.1 w1 w2 w3 w4 (by decide) eT (W := W) (F := fun a' => a' = #[.double x, .double y] ∧ Jvm.Free.Fl.NoNaN64 x ∧ Jvm.Free.Fl.NoNaN64 y) (fun c4 => Jvm.Free.Fl.Abs.maxD_pays x y c4 hf hl) (g := mkF m pc Ls (.double y :: .double x :: S)) rfl (hsz.trans C.2.2.2.1.symm) (argsL := [.double x, .double y]) (rest := S) (lenOf (show parseMethodDescriptor "(DD)D" = some ⟨[.double, .double], some .double⟩ by decide +kernel) rfl) rfl (by show 2 * 0 + _ ≤ _; simpa using hW) (hb C.2.2.1 hd.1) hc hs ⟨rfl, nx, ny⟩ rfl
  have k := K T' X' e'
  rw [hd.2] at k
  exact Go.step st k
end Kit
section Kit2
variable {p : Program} {e : Env} {below : List Frame} {s : State} {Q : Option Value → Heap → List Loc → Prop} {kC kS : Nat} {T : State} {m : MethodId} {pc : Nat} {Ls : Array Slot} {S : List Value}
theorem own_foldI {x z : Int32} (q : x = z) (g : Go p e below s Q kC kS T (mkF m pc Ls (.int z :: S))) : Go p e below s Q kC kS T (mkF m pc Ls (.int x :: S)) := q ▸ g
theorem own_foldJ {x z : Int64} (q : x = z) (g : Go p e below s Q kC kS T (mkF m pc Ls (.long z :: S))) : Go p e below s Q kC kS T (mkF m pc Ls (.long x :: S)) := q ▸ g
theorem own_foldD {x z : UInt64} (q : x = z) (g : Go p e below s Q kC kS T (mkF m pc Ls (.double z :: S))) : Go p e below s Q kC kS T (mkF m pc Ls (.double x :: S)) := q ▸ g
end Kit2
theorem tw_0 {Z : State} {a0 : Array Value} (hw : ∀ d ∈ tables_1, d.before a0 Z = true) : (Jvm.Cond.methodLink "com/example/cartomesh/cartomesh/model/RectIntersectsPinLaw" (16 : Nat) ({ cls := "com/example/cartomesh/cartomesh/model/RectIntersectsPinLaw", name := "lo", desc := "(I)I" } : Jvm.MethodName)).before a0 Z = true := hw _ (List.mem_of_getElem? (i := 0) rfl)
theorem tw_1 {Z : State} {a0 : Array Value} (hw : ∀ d ∈ tables_1, d.before a0 Z = true) : (Jvm.Cond.static ({ cls := "com/example/cartomesh/cartomesh/model/RectIntersectsPinLaw", name := "lo", desc := "(I)I" } : Jvm.MethodName)).before a0 Z = true := hw _ (List.mem_of_getElem? (i := 1) rfl)
theorem tw_2 {Z : State} {a0 : Array Value} (hw : ∀ d ∈ tables_1, d.before a0 Z = true) : (Jvm.Cond.initialized "com/example/cartomesh/cartomesh/model/RectIntersectsPinLaw").before a0 Z = true := hw _ (List.mem_of_getElem? (i := 2) rfl)
theorem tw_3 {Z : State} {a0 : Array Value} (hw : ∀ d ∈ tables_1, d.before a0 Z = true) : (Jvm.Cond.code ({ cls := "com/example/cartomesh/cartomesh/model/RectIntersectsPinLaw", name := "lo", desc := "(I)I" } : Jvm.MethodName) method_2_code (1 : Nat) (Option.some Jvm.ClassFile.FieldType.int)).before a0 Z = true := hw _ (List.mem_of_getElem? (i := 3) rfl)
theorem tw_4 {Z : State} {a0 : Array Value} (hw : ∀ d ∈ tables_1, d.before a0 Z = true) : (Jvm.Cond.methodLink "com/example/cartomesh/cartomesh/model/RectIntersectsPinLaw" (7 : Nat) ({ cls := "java/lang/Math", name := "min", desc := "(II)I" } : Jvm.MethodName)).before a0 Z = true := hw _ (List.mem_of_getElem? (i := 4) rfl)
theorem tw_5 {Z : State} {a0 : Array Value} (hw : ∀ d ∈ tables_1, d.before a0 Z = true) : (Jvm.Cond.static ({ cls := "java/lang/Math", name := "min", desc := "(II)I" } : Jvm.MethodName)).before a0 Z = true := hw _ (List.mem_of_getElem? (i := 5) rfl)
theorem tw_6 {Z : State} {a0 : Array Value} (hw : ∀ d ∈ tables_1, d.before a0 Z = true) : (Jvm.Cond.initialized "java/lang/Math").before a0 Z = true := hw _ (List.mem_of_getElem? (i := 6) rfl)
theorem tw_7 {Z : State} {a0 : Array Value} (hw : ∀ d ∈ tables_1, d.before a0 Z = true) : (Jvm.Cond.code ({ cls := "java/lang/Math", name := "min", desc := "(II)I" } : Jvm.MethodName) jdk_29_method_69_code (2 : Nat) (Option.some Jvm.ClassFile.FieldType.int)).before a0 Z = true := hw _ (List.mem_of_getElem? (i := 7) rfl)
theorem tw_8 {Z : State} {a0 : Array Value} (hw : ∀ d ∈ tables_1, d.before a0 Z = true) : (Jvm.Cond.methodLink "com/example/cartomesh/cartomesh/model/RectIntersectsPinLaw" (22 : Nat) ({ cls := "com/example/cartomesh/cartomesh/model/RectIntersectsPinLaw", name := "hi", desc := "(I)I" } : Jvm.MethodName)).before a0 Z = true := hw _ (List.mem_of_getElem? (i := 8) rfl)
theorem tw_9 {Z : State} {a0 : Array Value} (hw : ∀ d ∈ tables_1, d.before a0 Z = true) : (Jvm.Cond.static ({ cls := "com/example/cartomesh/cartomesh/model/RectIntersectsPinLaw", name := "hi", desc := "(I)I" } : Jvm.MethodName)).before a0 Z = true := hw _ (List.mem_of_getElem? (i := 9) rfl)
theorem tw_10 {Z : State} {a0 : Array Value} (hw : ∀ d ∈ tables_1, d.before a0 Z = true) : (Jvm.Cond.code ({ cls := "com/example/cartomesh/cartomesh/model/RectIntersectsPinLaw", name := "hi", desc := "(I)I" } : Jvm.MethodName) method_3_code (1 : Nat) (Option.some Jvm.ClassFile.FieldType.int)).before a0 Z = true := hw _ (List.mem_of_getElem? (i := 10) rfl)
theorem tw_11 {Z : State} {a0 : Array Value} (hw : ∀ d ∈ tables_1, d.before a0 Z = true) : (Jvm.Cond.methodLink "com/example/cartomesh/cartomesh/model/RectIntersectsPinLaw" (13 : Nat) ({ cls := "java/lang/Math", name := "max", desc := "(II)I" } : Jvm.MethodName)).before a0 Z = true := hw _ (List.mem_of_getElem? (i := 11) rfl)
theorem tw_12 {Z : State} {a0 : Array Value} (hw : ∀ d ∈ tables_1, d.before a0 Z = true) : (Jvm.Cond.static ({ cls := "java/lang/Math", name := "max", desc := "(II)I" } : Jvm.MethodName)).before a0 Z = true := hw _ (List.mem_of_getElem? (i := 12) rfl)
theorem tw_13 {Z : State} {a0 : Array Value} (hw : ∀ d ∈ tables_1, d.before a0 Z = true) : (Jvm.Cond.code ({ cls := "java/lang/Math", name := "max", desc := "(II)I" } : Jvm.MethodName) jdk_29_method_65_code (2 : Nat) (Option.some Jvm.ClassFile.FieldType.int)).before a0 Z = true := hw _ (List.mem_of_getElem? (i := 13) rfl)
theorem tw_14 {Z : State} {a0 : Array Value} (hw : ∀ d ∈ tables_1, d.before a0 Z = true) : (Jvm.Cond.classLink "com/example/cartomesh/cartomesh/model/RectIntersectsPinLaw" (25 : Nat) "com/example/cartomesh/cartomesh/model/Rect").before a0 Z = true := hw _ (List.mem_of_getElem? (i := 14) rfl)
theorem tw_15 {Z : State} {a0 : Array Value} (hw : ∀ d ∈ tables_1, d.before a0 Z = true) : (Jvm.Cond.instantiable "com/example/cartomesh/cartomesh/model/Rect" (4 : Nat)).before a0 Z = true := hw _ (List.mem_of_getElem? (i := 15) rfl)
theorem tw_16 {Z : State} {a0 : Array Value} (hw : ∀ d ∈ tables_1, d.before a0 Z = true) : (Jvm.Cond.initialized "com/example/cartomesh/cartomesh/model/Rect").before a0 Z = true := hw _ (List.mem_of_getElem? (i := 16) rfl)
theorem tw_17 {Z : State} {a0 : Array Value} (hw : ∀ d ∈ tables_1, d.before a0 Z = true) : (Jvm.Cond.methodLink "com/example/cartomesh/cartomesh/model/RectIntersectsPinLaw" (27 : Nat) ({ cls := "com/example/cartomesh/cartomesh/model/Rect", name := "<init>", desc := "(DDDD)V" } : Jvm.MethodName)).before a0 Z = true := hw _ (List.mem_of_getElem? (i := 17) rfl)
theorem tw_18 {Z : State} {a0 : Array Value} (hw : ∀ d ∈ tables_1, d.before a0 Z = true) : (Jvm.Cond.instanceMethod ({ cls := "com/example/cartomesh/cartomesh/model/Rect", name := "<init>", desc := "(DDDD)V" } : Jvm.MethodName)).before a0 Z = true := hw _ (List.mem_of_getElem? (i := 18) rfl)
theorem tw_19 {Z : State} {a0 : Array Value} (hw : ∀ d ∈ tables_1, d.before a0 Z = true) : (Jvm.Cond.code ({ cls := "com/example/cartomesh/cartomesh/model/Rect", name := "<init>", desc := "(DDDD)V" } : Jvm.MethodName) prog_14_method_1_code (9 : Nat) (Option.none : Option Jvm.ClassFile.FieldType)).before a0 Z = true := hw _ (List.mem_of_getElem? (i := 19) rfl)
theorem tw_20 {Z : State} {a0 : Array Value} (hw : ∀ d ∈ tables_1, d.before a0 Z = true) : (Jvm.Cond.methodLink "com/example/cartomesh/cartomesh/model/Rect" (1 : Nat) ({ cls := "java/lang/Record", name := "<init>", desc := "()V" } : Jvm.MethodName)).before a0 Z = true := hw _ (List.mem_of_getElem? (i := 20) rfl)
theorem tw_21 {Z : State} {a0 : Array Value} (hw : ∀ d ∈ tables_1, d.before a0 Z = true) : (Jvm.Cond.instanceMethod ({ cls := "java/lang/Record", name := "<init>", desc := "()V" } : Jvm.MethodName)).before a0 Z = true := hw _ (List.mem_of_getElem? (i := 21) rfl)
theorem tw_23 {Z : State} {a0 : Array Value} (hw : ∀ d ∈ tables_1, d.before a0 Z = true) : (Jvm.Cond.initialized "java/lang/Record").before a0 Z = true := hw _ (List.mem_of_getElem? (i := 23) rfl)
theorem tw_24 {Z : State} {a0 : Array Value} (hw : ∀ d ∈ tables_1, d.before a0 Z = true) : (Jvm.Cond.code ({ cls := "java/lang/Record", name := "<init>", desc := "()V" } : Jvm.MethodName) jdk_30_method_1_code (1 : Nat) (Option.none : Option Jvm.ClassFile.FieldType)).before a0 Z = true := hw _ (List.mem_of_getElem? (i := 24) rfl)
theorem tw_25 {Z : State} {a0 : Array Value} (hw : ∀ d ∈ tables_1, d.before a0 Z = true) : (Jvm.Cond.methodLink "java/lang/Record" (1 : Nat) ({ cls := "java/lang/Object", name := "<init>", desc := "()V" } : Jvm.MethodName)).before a0 Z = true := hw _ (List.mem_of_getElem? (i := 25) rfl)
theorem tw_26 {Z : State} {a0 : Array Value} (hw : ∀ d ∈ tables_1, d.before a0 Z = true) : (Jvm.Cond.instanceMethod ({ cls := "java/lang/Object", name := "<init>", desc := "()V" } : Jvm.MethodName)).before a0 Z = true := hw _ (List.mem_of_getElem? (i := 26) rfl)
theorem tw_27 {Z : State} {a0 : Array Value} (hw : ∀ d ∈ tables_1, d.before a0 Z = true) : (Jvm.Cond.code ({ cls := "java/lang/Object", name := "<init>", desc := "()V" } : Jvm.MethodName) object_method_1_code (1 : Nat) (Option.none : Option Jvm.ClassFile.FieldType)).before a0 Z = true := hw _ (List.mem_of_getElem? (i := 27) rfl)
theorem tw_28 {Z : State} {a0 : Array Value} (hw : ∀ d ∈ tables_1, d.before a0 Z = true) : (Jvm.Cond.fieldLink "com/example/cartomesh/cartomesh/model/Rect" (7 : Nat) "com/example/cartomesh/cartomesh/model/Rect" "minX" "D").before a0 Z = true := hw _ (List.mem_of_getElem? (i := 28) rfl)
theorem tw_29 {Z : State} {a0 : Array Value} (hw : ∀ d ∈ tables_1, d.before a0 Z = true) : (Jvm.Cond.laysFinal "com/example/cartomesh/cartomesh/model/Rect" "com/example/cartomesh/cartomesh/model/Rect" "minX" "D").before a0 Z = true := hw _ (List.mem_of_getElem? (i := 29) rfl)
theorem tw_30 {Z : State} {a0 : Array Value} (hw : ∀ d ∈ tables_1, d.before a0 Z = true) : (Jvm.Cond.fieldLink "com/example/cartomesh/cartomesh/model/Rect" (13 : Nat) "com/example/cartomesh/cartomesh/model/Rect" "minY" "D").before a0 Z = true := hw _ (List.mem_of_getElem? (i := 30) rfl)
theorem tw_31 {Z : State} {a0 : Array Value} (hw : ∀ d ∈ tables_1, d.before a0 Z = true) : (Jvm.Cond.laysFinal "com/example/cartomesh/cartomesh/model/Rect" "com/example/cartomesh/cartomesh/model/Rect" "minY" "D").before a0 Z = true := hw _ (List.mem_of_getElem? (i := 31) rfl)
theorem tw_32 {Z : State} {a0 : Array Value} (hw : ∀ d ∈ tables_1, d.before a0 Z = true) : (Jvm.Cond.fieldLink "com/example/cartomesh/cartomesh/model/Rect" (16 : Nat) "com/example/cartomesh/cartomesh/model/Rect" "maxX" "D").before a0 Z = true := hw _ (List.mem_of_getElem? (i := 32) rfl)
theorem tw_33 {Z : State} {a0 : Array Value} (hw : ∀ d ∈ tables_1, d.before a0 Z = true) : (Jvm.Cond.laysFinal "com/example/cartomesh/cartomesh/model/Rect" "com/example/cartomesh/cartomesh/model/Rect" "maxX" "D").before a0 Z = true := hw _ (List.mem_of_getElem? (i := 33) rfl)
theorem tw_34 {Z : State} {a0 : Array Value} (hw : ∀ d ∈ tables_1, d.before a0 Z = true) : (Jvm.Cond.fieldLink "com/example/cartomesh/cartomesh/model/Rect" (19 : Nat) "com/example/cartomesh/cartomesh/model/Rect" "maxY" "D").before a0 Z = true := hw _ (List.mem_of_getElem? (i := 34) rfl)
theorem tw_35 {Z : State} {a0 : Array Value} (hw : ∀ d ∈ tables_1, d.before a0 Z = true) : (Jvm.Cond.laysFinal "com/example/cartomesh/cartomesh/model/Rect" "com/example/cartomesh/cartomesh/model/Rect" "maxY" "D").before a0 Z = true := hw _ (List.mem_of_getElem? (i := 35) rfl)
theorem tw_36 {Z : State} {a0 : Array Value} (hw : ∀ d ∈ tables_1, d.before a0 Z = true) : (Jvm.Cond.methodLink "com/example/cartomesh/cartomesh/model/RectIntersectsPinLaw" (30 : Nat) ({ cls := "com/example/cartomesh/cartomesh/model/Rect", name := "intersects", desc := "(Lcom/example/cartomesh/cartomesh/model/Rect;)Z" } : Jvm.MethodName)).before a0 Z = true := hw _ (List.mem_of_getElem? (i := 36) rfl)
theorem tw_37 {Z : State} {a0 : Array Value} (hw : ∀ d ∈ tables_1, d.before a0 Z = true) : (Jvm.Cond.declares ({ cls := "com/example/cartomesh/cartomesh/model/Rect", name := "intersects", desc := "(Lcom/example/cartomesh/cartomesh/model/Rect;)Z" } : Jvm.MethodName)).before a0 Z = true := hw _ (List.mem_of_getElem? (i := 37) rfl)
theorem tw_38 {Z : State} {a0 : Array Value} (hw : ∀ d ∈ tables_1, d.before a0 Z = true) : (Jvm.Cond.instanceMethod ({ cls := "com/example/cartomesh/cartomesh/model/Rect", name := "intersects", desc := "(Lcom/example/cartomesh/cartomesh/model/Rect;)Z" } : Jvm.MethodName)).before a0 Z = true := hw _ (List.mem_of_getElem? (i := 38) rfl)
theorem tw_39 {Z : State} {a0 : Array Value} (hw : ∀ d ∈ tables_1, d.before a0 Z = true) : (Jvm.Cond.selects "com/example/cartomesh/cartomesh/model/Rect" ({ cls := "com/example/cartomesh/cartomesh/model/Rect", name := "intersects", desc := "(Lcom/example/cartomesh/cartomesh/model/Rect;)Z" } : Jvm.MethodName) ({ cls := "com/example/cartomesh/cartomesh/model/Rect", name := "intersects", desc := "(Lcom/example/cartomesh/cartomesh/model/Rect;)Z" } : Jvm.MethodName)).before a0 Z = true := hw _ (List.mem_of_getElem? (i := 39) rfl)
theorem tw_40 {Z : State} {a0 : Array Value} (hw : ∀ d ∈ tables_1, d.before a0 Z = true) : (Jvm.Cond.code ({ cls := "com/example/cartomesh/cartomesh/model/Rect", name := "intersects", desc := "(Lcom/example/cartomesh/cartomesh/model/Rect;)Z" } : Jvm.MethodName) prog_14_method_10_code (2 : Nat) (Option.some Jvm.ClassFile.FieldType.boolean)).before a0 Z = true := hw _ (List.mem_of_getElem? (i := 40) rfl)
theorem pd_0 : parseMethodDescriptor "()V" = some ⟨[], none⟩ := by decide +kernel
theorem pd_1 : parseMethodDescriptor "(II)I" = some ⟨[.int, .int], some .int⟩ := by decide +kernel
theorem pd_2 : parseMethodDescriptor "(I)I" = some ⟨[.int], some .int⟩ := by decide +kernel
theorem pd_3 : parseMethodDescriptor "(DDDD)V" = some ⟨[.double, .double, .double, .double], none⟩ := by decide +kernel
theorem pd_4 : parseMethodDescriptor "(Lcom/example/cartomesh/cartomesh/model/Rect;)Z" = some ⟨[(.object "com/example/cartomesh/cartomesh/model/Rect")], some .boolean⟩ := by decide +kernel
theorem f6_0 : Dec jdk_30_method_1_code 0 (.aload_n 0) 1 1 := ⟨by decide +kernel, rfl⟩
theorem f6_1 : Dec jdk_30_method_1_code 1 (.invokespecial 1) 3 4 := ⟨by decide +kernel, rfl⟩
theorem f6_4 : Dec jdk_30_method_1_code 4 (.return_) 1 5 := ⟨by decide +kernel, rfl⟩
theorem pn_6 : plainFor (⟨"java/lang/Record", "<init>", "()V"⟩ : MethodName) = true := plainFor_of_name (show plainName "java/lang/Record" = true by first | (simp [plainName, overriddenIn]; done) | decide +kernel)
theorem ef_6 (m : MethodId) (a : Addr) : entryFrame m #[(.ref a)] 1 = mkF m 0 #[.val (.ref a)] [] := by first | (simp [entryFrame, mkF, argsToLocals, Value.category]; done) | rfl
def Q6 (Z : State) (a : Addr) (h0 : Heap) (n0 : Nat) (v9 : Option Value) (h9 : Heap) (L9 : List Loc) : Prop := v9 = none ∧ Fr n0 L9 ∧ h9 = h0
set_option maxRecDepth 65536 in
set_option maxHeartbeats 40000000 in
theorem rm6 (l : Launch) (Z : State) (a0 : Array Value) (hw : ∀ d ∈ tables_1, d.before a0 Z = true) (ws : List Jvm.Cond) (a : Addr) (h0 : Heap) (n0 : Nat) (Z0 : n0 ≤ h0.size) :
    MetFree l (⟨"java/lang/Record", "<init>", "()V"⟩ : MethodName) (head1 (Jvm.Cond.code (⟨"java/lang/Record", "<init>", "()V"⟩ : MethodName) jdk_30_method_1_code 1 none :: ws) ({ frames := 1, cells := 0, slots := 0, locals := 12 } : Room)) (fun A9 U9 => A9 = #[(.ref a)] ∧ Z.Warmed39 U9.vm ∧ U9.heap = h0) (fun _ _ _ _ _ => True) (fun _ U9 o9 V9 => ∃ v9 L9, o9 = .returned v9 ∧ (Q6 Z a h0 n0) v9 V9.heap L9 ∧ FrameEnd U9 o9 V9 L9 ({ frames := 1, cells := 0, slots := 0, locals := 12 } : Room).cells ({ frames := 1, cells := 0, slots := 0, locals := 12 } : Room).slots) := by
  refine met_of (Q := (Q6 Z a h0 n0)) pn_6 ?_
  intro p e s m below meth c T0 C X0 e0
  have N0 := Fr.nil n0
  refine Go.cast (ef_6 m a) ?_
  refine waloadN C X0 f6_0 rfl rfl ?_
  refine winitO C X0 (tw_25 hw) (tw_26 hw) (tw_27 hw) e0 f6_1 rfl (by decide) (W := 0) (Nat.le_of_eq rfl) (by decide) ?_
  intro T1 X1 e1
  refine wret C X1 f6_4 rfl (by decide) (by decide) ?_
  rw [e1]
  exact ⟨rfl, N0, rfl⟩
theorem f5_0 : Dec prog_14_method_1_code 0 (.aload_n 0) 1 1 := ⟨by decide +kernel, rfl⟩
theorem f5_1 : Dec prog_14_method_1_code 1 (.invokespecial 1) 3 4 := ⟨by decide +kernel, rfl⟩
theorem f5_4 : Dec prog_14_method_1_code 4 (.aload_n 0) 1 5 := ⟨by decide +kernel, rfl⟩
theorem f5_5 : Dec prog_14_method_1_code 5 (.dload_n 1) 1 6 := ⟨by decide +kernel, rfl⟩
theorem f5_6 : Dec prog_14_method_1_code 6 (.putfield 7) 3 9 := ⟨by decide +kernel, rfl⟩
theorem f5_9 : Dec prog_14_method_1_code 9 (.aload_n 0) 1 10 := ⟨by decide +kernel, rfl⟩
theorem f5_10 : Dec prog_14_method_1_code 10 (.dload_n 3) 1 11 := ⟨by decide +kernel, rfl⟩
theorem f5_11 : Dec prog_14_method_1_code 11 (.putfield 13) 3 14 := ⟨by decide +kernel, rfl⟩
theorem f5_14 : Dec prog_14_method_1_code 14 (.aload_n 0) 1 15 := ⟨by decide +kernel, rfl⟩
theorem f5_15 : Dec prog_14_method_1_code 15 (.dload 5) 2 17 := ⟨by decide +kernel, rfl⟩
theorem f5_17 : Dec prog_14_method_1_code 17 (.putfield 16) 3 20 := ⟨by decide +kernel, rfl⟩
theorem f5_20 : Dec prog_14_method_1_code 20 (.aload_n 0) 1 21 := ⟨by decide +kernel, rfl⟩
theorem f5_21 : Dec prog_14_method_1_code 21 (.dload 7) 2 23 := ⟨by decide +kernel, rfl⟩
theorem f5_23 : Dec prog_14_method_1_code 23 (.putfield 19) 3 26 := ⟨by decide +kernel, rfl⟩
theorem f5_26 : Dec prog_14_method_1_code 26 (.return_) 1 27 := ⟨by decide +kernel, rfl⟩
theorem pn_5 : plainFor (⟨"com/example/cartomesh/cartomesh/model/Rect", "<init>", "(DDDD)V"⟩ : MethodName) = true := plainFor_of_name (show plainName "com/example/cartomesh/cartomesh/model/Rect" = true by first | (simp [plainName, overriddenIn]; done) | decide +kernel)
theorem ef_5 (m : MethodId) (a : Addr) (u1 : UInt64) (u2 : UInt64) (u3 : UInt64) (u4 : UInt64) : entryFrame m #[(.ref a), (.double u1), (.double u2), (.double u3), (.double u4)] 9 = mkF m 0 #[.val (.ref a), .val (.double u1), .second, .val (.double u2), .second, .val (.double u3), .second, .val (.double u4), .second] [] := by first | (simp [entryFrame, mkF, argsToLocals, Value.category]; done) | rfl
def Q5 (Z : State) (a : Addr) (u1 : UInt64) (u2 : UInt64) (u3 : UInt64) (u4 : UInt64) (o0 : UInt64) (o1 : UInt64) (o2 : UInt64) (o3 : UInt64) (h0 : Heap) (n0 : Nat) (v9 : Option Value) (h9 : Heap) (L9 : List Loc) : Prop := v9 = none ∧ Fr n0 L9 ∧ Keep h0 h9 [a] ∧ Exa Z h9 a "com/example/cartomesh/cartomesh/model/Rect" ∧ Fld Z h9 a "com/example/cartomesh/cartomesh/model/Rect" "minX" "D" (.double u1) ∧ Fld Z h9 a "com/example/cartomesh/cartomesh/model/Rect" "minY" "D" (.double u2) ∧ Fld Z h9 a "com/example/cartomesh/cartomesh/model/Rect" "maxX" "D" (.double u3) ∧ Fld Z h9 a "com/example/cartomesh/cartomesh/model/Rect" "maxY" "D" (.double u4)
set_option maxRecDepth 65536 in
set_option maxHeartbeats 40000000 in
theorem rm5 (l : Launch) (Z : State) (a0 : Array Value) (hw : ∀ d ∈ tables_1, d.before a0 Z = true) (ws : List Jvm.Cond) (a : Addr) (u1 : UInt64) (u2 : UInt64) (u3 : UInt64) (u4 : UInt64) (o0 : UInt64) (o1 : UInt64) (o2 : UInt64) (o3 : UInt64) (h0 : Heap) (n0 : Nat) (Z0 : n0 ≤ h0.size) (Exa_0 : Exa Z h0 a "com/example/cartomesh/cartomesh/model/Rect") (Fld_1 : Fld Z h0 a "com/example/cartomesh/cartomesh/model/Rect" "minX" "D" (.double o0)) (Fld_2 : Fld Z h0 a "com/example/cartomesh/cartomesh/model/Rect" "minY" "D" (.double o1)) (Fld_3 : Fld Z h0 a "com/example/cartomesh/cartomesh/model/Rect" "maxX" "D" (.double o2)) (Fld_4 : Fld Z h0 a "com/example/cartomesh/cartomesh/model/Rect" "maxY" "D" (.double o3)) (ge_5 : n0 ≤ a) :
    MetFree l (⟨"com/example/cartomesh/cartomesh/model/Rect", "<init>", "(DDDD)V"⟩ : MethodName) (head1 (Jvm.Cond.code (⟨"com/example/cartomesh/cartomesh/model/Rect", "<init>", "(DDDD)V"⟩ : MethodName) prog_14_method_1_code 9 none :: ws) ({ frames := 2, cells := 0, slots := 0, locals := 24 } : Room)) (fun A9 U9 => A9 = #[(.ref a), (.double u1), (.double u2), (.double u3), (.double u4)] ∧ Z.Warmed39 U9.vm ∧ U9.heap = h0) (fun _ _ _ _ _ => True) (fun _ U9 o9 V9 => ∃ v9 L9, o9 = .returned v9 ∧ (Q5 Z a u1 u2 u3 u4 o0 o1 o2 o3 h0 n0) v9 V9.heap L9 ∧ FrameEnd U9 o9 V9 L9 ({ frames := 2, cells := 0, slots := 0, locals := 24 } : Room).cells ({ frames := 2, cells := 0, slots := 0, locals := 24 } : Room).slots) := by
  refine met_of (Q := (Q5 Z a u1 u2 u3 u4 o0 o1 o2 o3 h0 n0)) pn_5 ?_
  intro p e s m below meth c T0 C X0 e0
  have N0 := Fr.nil n0
  refine Go.cast (ef_5 m a u1 u2 u3 u4) ?_
  refine waloadN C X0 f5_0 rfl rfl ?_
  refine wspecial C X0 (y := (⟨"java/lang/Record", "<init>", "()V"⟩ : MethodName)) rfl (tw_20 hw) (tw_21 hw) (tw_24 hw) (tw_23 hw) rfl (by decide) (rm6 l Z a0 hw [] a h0 n0 Z0) e0 f5_1 (a := a) (argsL := []) (rest := []) rfl rfl (lenOf pd_0 rfl) rfl (W := 0) (Nat.le_of_eq rfl) (by decide) (by decide) (by decide) (by decide) ?_
  intro v1 T1 L1 X1 q1
  obtain ⟨rfl, Nq1, eq1⟩ := q1
  have N1 := Fr.app N0 Nq1
  show Go p e below s _ _ _ T1 (mkF m 4 #[.val (.ref a), .val (.double u1), .second, .val (.double u2), .second, .val (.double u3), .second, .val (.double u4), .second] [])
  refine waloadN C X1 f5_4 rfl rfl ?_
  refine wdloadN C X1 f5_5 rfl ?_
  refine wput C X1 (host := "") (Or.inl (tw_28 hw)) Via.refl eq1 Fld_1 Exa_0 (Or.inr ⟨(tw_29 hw), rfl, rfl⟩) (tw_15 hw) (ty := .double) (by decide) rfl rfl f5_6 ?_
  intro T2 h2 X2 e2 W2
  have Fw2 := Fld_1.same W2
  have N2 := Fr.snoc X2 N1 ge_5
  refine waloadN C X2 f5_9 rfl rfl ?_
  refine wdloadN C X2 f5_10 rfl ?_
  have q3 := (Fld_2.other W2 (Or.inr (slot_ne (Or.inr (tw_31 hw)) (Or.inr (tw_29 hw)) (by decide) (t := .double) (t' := .double) (by decide) (by decide))))
  refine wput C X2 (host := "") (Or.inl (tw_30 hw)) Via.refl e2 q3 (Exa_0.wr W2) (Or.inr ⟨(tw_31 hw), rfl, rfl⟩) (tw_15 hw) (ty := .double) (by decide) rfl rfl f5_11 ?_
  intro T4 h4 X4 e4 W4
  have Fw4 := q3.same W4
  have N4 := Fr.snoc X4 N2 ge_5
  refine waloadN C X4 f5_14 rfl rfl ?_
  refine wdload C X4 f5_15 rfl ?_
  have q5 := ((Fld_3.other W2 (Or.inr (slot_ne (Or.inr (tw_33 hw)) (Or.inr (tw_29 hw)) (by decide) (t := .double) (t' := .double) (by decide) (by decide)))).other W4 (Or.inr (slot_ne (Or.inr (tw_33 hw)) (Or.inr (tw_31 hw)) (by decide) (t := .double) (t' := .double) (by decide) (by decide))))
  refine wput C X4 (host := "") (Or.inl (tw_32 hw)) Via.refl e4 q5 ((Exa_0.wr W2).wr W4) (Or.inr ⟨(tw_33 hw), rfl, rfl⟩) (tw_15 hw) (ty := .double) (by decide) rfl rfl f5_17 ?_
  intro T6 h6 X6 e6 W6
  have Fw6 := q5.same W6
  have N6 := Fr.snoc X6 N4 ge_5
  refine waloadN C X6 f5_20 rfl rfl ?_
  refine wdload C X6 f5_21 rfl ?_
  have q7 := (((Fld_4.other W2 (Or.inr (slot_ne (Or.inr (tw_35 hw)) (Or.inr (tw_29 hw)) (by decide) (t := .double) (t' := .double) (by decide) (by decide)))).other W4 (Or.inr (slot_ne (Or.inr (tw_35 hw)) (Or.inr (tw_31 hw)) (by decide) (t := .double) (t' := .double) (by decide) (by decide)))).other W6 (Or.inr (slot_ne (Or.inr (tw_35 hw)) (Or.inr (tw_33 hw)) (by decide) (t := .double) (t' := .double) (by decide) (by decide))))
  refine wput C X6 (host := "") (Or.inl (tw_34 hw)) Via.refl e6 q7 (((Exa_0.wr W2).wr W4).wr W6) (Or.inr ⟨(tw_35 hw), rfl, rfl⟩) (tw_15 hw) (ty := .double) (by decide) rfl rfl f5_23 ?_
  intro T8 h8 X8 e8 W8
  have Fw8 := q7.same W8
  have N8 := Fr.snoc X8 N6 ge_5
  refine wret C X8 f5_26 rfl (by decide) (by decide) ?_
  rw [e8]
  have q9 := (((((Keep.refl h0 [a]).wr W2 (Or.inl (List.mem_of_getElem? (i := 0) rfl))).wr W4 (Or.inl (List.mem_of_getElem? (i := 0) rfl))).wr W6 (Or.inl (List.mem_of_getElem? (i := 0) rfl))).wr W8 (Or.inl (List.mem_of_getElem? (i := 0) rfl)))
  have q10 := (((Fw2.other W4 (Or.inr (slot_ne (Or.inr (tw_29 hw)) (Or.inr (tw_31 hw)) (by decide) (t := .double) (t' := .double) (by decide) (by decide)))).other W6 (Or.inr (slot_ne (Or.inr (tw_29 hw)) (Or.inr (tw_33 hw)) (by decide) (t := .double) (t' := .double) (by decide) (by decide)))).other W8 (Or.inr (slot_ne (Or.inr (tw_29 hw)) (Or.inr (tw_35 hw)) (by decide) (t := .double) (t' := .double) (by decide) (by decide))))
  have q11 := ((Fw4.other W6 (Or.inr (slot_ne (Or.inr (tw_31 hw)) (Or.inr (tw_33 hw)) (by decide) (t := .double) (t' := .double) (by decide) (by decide)))).other W8 (Or.inr (slot_ne (Or.inr (tw_31 hw)) (Or.inr (tw_35 hw)) (by decide) (t := .double) (t' := .double) (by decide) (by decide))))
  have q12 := (Fw6.other W8 (Or.inr (slot_ne (Or.inr (tw_33 hw)) (Or.inr (tw_35 hw)) (by decide) (t := .double) (t' := .double) (by decide) (by decide))))
  exact ⟨rfl, N8, q9, ((((Exa_0.wr W2).wr W4).wr W6).wr W8), q10, q11, q12, Fw8⟩
theorem f2_0 : Dec jdk_29_method_69_code 0 (.iload_n 0) 1 1 := ⟨by decide +kernel, rfl⟩
theorem f2_1 : Dec jdk_29_method_69_code 1 (.iload_n 1) 1 2 := ⟨by decide +kernel, rfl⟩
theorem f2_2 : DecJ jdk_29_method_69_code 2 (.if_icmp .gt 7) 7 9 5 := ⟨by decide +kernel, by decide, by decide, rfl⟩
theorem f2_5 : Dec jdk_29_method_69_code 5 (.iload_n 0) 1 6 := ⟨by decide +kernel, rfl⟩
theorem f2_6 : DecJ jdk_29_method_69_code 6 (.goto 4) 4 10 9 := ⟨by decide +kernel, by decide, by decide, rfl⟩
theorem f2_9 : Dec jdk_29_method_69_code 9 (.iload_n 1) 1 10 := ⟨by decide +kernel, rfl⟩
theorem f2_10 : Dec jdk_29_method_69_code 10 (.ireturn) 1 11 := ⟨by decide +kernel, rfl⟩
theorem pn_2 : plainFor (⟨"java/lang/Math", "min", "(II)I"⟩ : MethodName) = true := Jvm.Free.JP.mathPlain rfl (by decide +kernel)
theorem ef_2 (m : MethodId) (i : Int32) (j : Int32) : entryFrame m #[(.int i), (.int j)] 2 = mkF m 0 #[.val (.int i), .val (.int j)] [] := by first | (simp [entryFrame, mkF, argsToLocals, Value.category]; done) | rfl
def R2 (i : Int32) (j : Int32) : Int32 := (if j < i then j else i)
def Q2 (Z : State) (i : Int32) (j : Int32) (h0 : Heap) (n0 : Nat) (v9 : Option Value) (h9 : Heap) (L9 : List Loc) : Prop := v9 = some (.int (R2 i j)) ∧ Fr n0 L9 ∧ h9 = h0
set_option maxRecDepth 65536 in
set_option maxHeartbeats 40000000 in
theorem rm2 (l : Launch) (Z : State) (a0 : Array Value) (hw : ∀ d ∈ tables_1, d.before a0 Z = true) (ws : List Jvm.Cond) (i : Int32) (j : Int32) (h0 : Heap) (n0 : Nat) (Z0 : n0 ≤ h0.size) :
    MetFree l (⟨"java/lang/Math", "min", "(II)I"⟩ : MethodName) (head1 (Jvm.Cond.code (⟨"java/lang/Math", "min", "(II)I"⟩ : MethodName) jdk_29_method_69_code 2 (some .int) :: ws) ({ frames := 0, cells := 0, slots := 0, locals := 0 } : Room)) (fun A9 U9 => A9 = #[(.int i), (.int j)] ∧ Z.Warmed39 U9.vm ∧ U9.heap = h0) (fun _ _ _ _ _ => True) (fun _ U9 o9 V9 => ∃ v9 L9, o9 = .returned v9 ∧ (Q2 Z i j h0 n0) v9 V9.heap L9 ∧ FrameEnd U9 o9 V9 L9 ({ frames := 0, cells := 0, slots := 0, locals := 0 } : Room).cells ({ frames := 0, cells := 0, slots := 0, locals := 0 } : Room).slots) := by
  refine met_of (Q := (Q2 Z i j h0 n0)) pn_2 ?_
  intro p e s m below meth c T0 C X0 e0
  have N0 := Fr.nil n0
  refine Go.cast (ef_2 m i j) ?_
  refine wiloadN C X0 f2_0 rfl ?_
  refine wiloadN C X0 f2_1 rfl ?_
  refine wicmp_gt C X0 f2_2 (fun hc2 => ?_) (fun hc2 => ?_)
  · refine wiloadN C X0 f2_9 rfl ?_
    refine wiret C X0 f2_10 rfl (by decide) (by decide) ?_
    rw [e0]
    exact ⟨(by unfold R2; rw [if_pos hc2]), N0, rfl⟩
  · refine wiloadN C X0 f2_5 rfl ?_
    refine wgoto C X0 f2_6 ?_
    refine wiret C X0 f2_10 rfl (by decide) (by decide) ?_
    rw [e0]
    exact ⟨(by unfold R2; rw [if_neg hc2]), N0, rfl⟩
theorem f4_0 : Dec jdk_29_method_65_code 0 (.iload_n 0) 1 1 := ⟨by decide +kernel, rfl⟩
theorem f4_1 : Dec jdk_29_method_65_code 1 (.iload_n 1) 1 2 := ⟨by decide +kernel, rfl⟩
theorem f4_2 : DecJ jdk_29_method_65_code 2 (.if_icmp .lt 7) 7 9 5 := ⟨by decide +kernel, by decide, by decide, rfl⟩
theorem f4_5 : Dec jdk_29_method_65_code 5 (.iload_n 0) 1 6 := ⟨by decide +kernel, rfl⟩
theorem f4_6 : DecJ jdk_29_method_65_code 6 (.goto 4) 4 10 9 := ⟨by decide +kernel, by decide, by decide, rfl⟩
theorem f4_9 : Dec jdk_29_method_65_code 9 (.iload_n 1) 1 10 := ⟨by decide +kernel, rfl⟩
theorem f4_10 : Dec jdk_29_method_65_code 10 (.ireturn) 1 11 := ⟨by decide +kernel, rfl⟩
theorem pn_4 : plainFor (⟨"java/lang/Math", "max", "(II)I"⟩ : MethodName) = true := Jvm.Free.JP.mathPlain rfl (by decide +kernel)
theorem ef_4 (m : MethodId) (i : Int32) (j : Int32) : entryFrame m #[(.int i), (.int j)] 2 = mkF m 0 #[.val (.int i), .val (.int j)] [] := by first | (simp [entryFrame, mkF, argsToLocals, Value.category]; done) | rfl
def R4 (i : Int32) (j : Int32) : Int32 := (if i < j then j else i)
def Q4 (Z : State) (i : Int32) (j : Int32) (h0 : Heap) (n0 : Nat) (v9 : Option Value) (h9 : Heap) (L9 : List Loc) : Prop := v9 = some (.int (R4 i j)) ∧ Fr n0 L9 ∧ h9 = h0
set_option maxRecDepth 65536 in
set_option maxHeartbeats 40000000 in
theorem rm4 (l : Launch) (Z : State) (a0 : Array Value) (hw : ∀ d ∈ tables_1, d.before a0 Z = true) (ws : List Jvm.Cond) (i : Int32) (j : Int32) (h0 : Heap) (n0 : Nat) (Z0 : n0 ≤ h0.size) :
    MetFree l (⟨"java/lang/Math", "max", "(II)I"⟩ : MethodName) (head1 (Jvm.Cond.code (⟨"java/lang/Math", "max", "(II)I"⟩ : MethodName) jdk_29_method_65_code 2 (some .int) :: ws) ({ frames := 0, cells := 0, slots := 0, locals := 0 } : Room)) (fun A9 U9 => A9 = #[(.int i), (.int j)] ∧ Z.Warmed39 U9.vm ∧ U9.heap = h0) (fun _ _ _ _ _ => True) (fun _ U9 o9 V9 => ∃ v9 L9, o9 = .returned v9 ∧ (Q4 Z i j h0 n0) v9 V9.heap L9 ∧ FrameEnd U9 o9 V9 L9 ({ frames := 0, cells := 0, slots := 0, locals := 0 } : Room).cells ({ frames := 0, cells := 0, slots := 0, locals := 0 } : Room).slots) := by
  refine met_of (Q := (Q4 Z i j h0 n0)) pn_4 ?_
  intro p e s m below meth c T0 C X0 e0
  have N0 := Fr.nil n0
  refine Go.cast (ef_4 m i j) ?_
  refine wiloadN C X0 f4_0 rfl ?_
  refine wiloadN C X0 f4_1 rfl ?_
  refine wicmp_lt C X0 f4_2 (fun hc2 => ?_) (fun hc2 => ?_)
  · refine wiloadN C X0 f4_9 rfl ?_
    refine wiret C X0 f4_10 rfl (by decide) (by decide) ?_
    rw [e0]
    exact ⟨(by unfold R4; rw [if_pos hc2]), N0, rfl⟩
  · refine wiloadN C X0 f4_5 rfl ?_
    refine wgoto C X0 f4_6 ?_
    refine wiret C X0 f4_10 rfl (by decide) (by decide) ?_
    rw [e0]
    exact ⟨(by unfold R4; rw [if_neg hc2]), N0, rfl⟩
theorem f1_0 : Dec method_2_code 0 (.iload_n 0) 1 1 := ⟨by decide +kernel, rfl⟩
theorem f1_1 : Dec method_2_code 1 (.i2b) 1 2 := ⟨by decide +kernel, rfl⟩
theorem f1_2 : Dec method_2_code 2 (.iload_n 0) 1 3 := ⟨by decide +kernel, rfl⟩
theorem f1_3 : Dec method_2_code 3 (.bipush 8) 2 5 := ⟨by decide +kernel, rfl⟩
theorem f1_5 : Dec method_2_code 5 (.ishr) 1 6 := ⟨by decide +kernel, rfl⟩
theorem f1_6 : Dec method_2_code 6 (.i2b) 1 7 := ⟨by decide +kernel, rfl⟩
theorem f1_7 : Dec method_2_code 7 (.invokestatic 7) 3 10 := ⟨by decide +kernel, rfl⟩
theorem f1_10 : Dec method_2_code 10 (.ireturn) 1 11 := ⟨by decide +kernel, rfl⟩
theorem pn_1 : plainFor (⟨"com/example/cartomesh/cartomesh/model/RectIntersectsPinLaw", "lo", "(I)I"⟩ : MethodName) = true := plainFor_of_name (show plainName "com/example/cartomesh/cartomesh/model/RectIntersectsPinLaw" = true by first | (simp [plainName, overriddenIn]; done) | decide +kernel)
theorem ef_1 (m : MethodId) (i : Int32) : entryFrame m #[(.int i)] 1 = mkF m 0 #[.val (.int i)] [] := by first | (simp [entryFrame, mkF, argsToLocals, Value.category]; done) | rfl
def Q1 (Z : State) (i : Int32) (h0 : Heap) (n0 : Nat) (v9 : Option Value) (h9 : Heap) (L9 : List Loc) : Prop := v9 = some (.int (R2 i.toInt8.toInt32 (i >>> ((8 : Int32) &&& 31)).toInt8.toInt32)) ∧ Fr n0 L9 ∧ h9 = h0
set_option maxRecDepth 65536 in
set_option maxHeartbeats 40000000 in
theorem rm1 (l : Launch) (Z : State) (a0 : Array Value) (hw : ∀ d ∈ tables_1, d.before a0 Z = true) (ws : List Jvm.Cond) (i : Int32) (h0 : Heap) (n0 : Nat) (Z0 : n0 ≤ h0.size) :
    MetFree l (⟨"com/example/cartomesh/cartomesh/model/RectIntersectsPinLaw", "lo", "(I)I"⟩ : MethodName) (head1 (Jvm.Cond.code (⟨"com/example/cartomesh/cartomesh/model/RectIntersectsPinLaw", "lo", "(I)I"⟩ : MethodName) method_2_code 1 (some .int) :: ws) ({ frames := 1, cells := 0, slots := 0, locals := 13 } : Room)) (fun A9 U9 => A9 = #[(.int i)] ∧ Z.Warmed39 U9.vm ∧ U9.heap = h0) (fun _ _ _ _ _ => True) (fun _ U9 o9 V9 => ∃ v9 L9, o9 = .returned v9 ∧ (Q1 Z i h0 n0) v9 V9.heap L9 ∧ FrameEnd U9 o9 V9 L9 ({ frames := 1, cells := 0, slots := 0, locals := 13 } : Room).cells ({ frames := 1, cells := 0, slots := 0, locals := 13 } : Room).slots) := by
  refine met_of (Q := (Q1 Z i h0 n0)) pn_1 ?_
  intro p e s m below meth c T0 C X0 e0
  have N0 := Fr.nil n0
  refine Go.cast (ef_1 m i) ?_
  refine wiloadN C X0 f1_0 rfl ?_
  refine wi2b C X0 f1_1 ?_
  refine wiloadN C X0 f1_2 rfl ?_
  refine wbipush C X0 f1_3 (8 : Int32) rfl ?_
  refine wishr C X0 f1_5 ?_
  refine wi2b C X0 f1_6 ?_
  refine wstatic C X0 (y := (⟨"java/lang/Math", "min", "(II)I"⟩ : MethodName)) (tw_4 hw) (tw_5 hw) (tw_6 hw) (tw_7 hw) (by decide) (rm2 l Z a0 hw [] i.toInt8.toInt32 ((i >>> ((8 : Int32) &&& 31)).toInt8.toInt32) h0 n0 Z0) e0 f1_7 (argsL := [(.int i.toInt8.toInt32), (.int (i >>> ((8 : Int32) &&& 31)).toInt8.toInt32)]) (rest := []) rfl rfl (lenOf pd_1 rfl) rfl (W := 0) (Nat.le_of_eq rfl) (by decide) (by decide) (by decide) (by decide) ?_
  intro v1 T1 L1 X1 q1
  obtain ⟨rfl, Nq1, eq1⟩ := q1
  have N1 := Fr.app N0 Nq1
  show Go p e below s _ _ _ T1 (mkF m 10 #[.val (.int i)] [(.int (R2 i.toInt8.toInt32 (i >>> ((8 : Int32) &&& 31)).toInt8.toInt32))])
  refine wiret C X1 f1_10 rfl (by decide) (by decide) ?_
  rw [eq1]
  exact ⟨rfl, N1, rfl⟩
theorem f3_0 : Dec method_3_code 0 (.iload_n 0) 1 1 := ⟨by decide +kernel, rfl⟩
theorem f3_1 : Dec method_3_code 1 (.i2b) 1 2 := ⟨by decide +kernel, rfl⟩
theorem f3_2 : Dec method_3_code 2 (.iload_n 0) 1 3 := ⟨by decide +kernel, rfl⟩
theorem f3_3 : Dec method_3_code 3 (.bipush 8) 2 5 := ⟨by decide +kernel, rfl⟩
theorem f3_5 : Dec method_3_code 5 (.ishr) 1 6 := ⟨by decide +kernel, rfl⟩
theorem f3_6 : Dec method_3_code 6 (.i2b) 1 7 := ⟨by decide +kernel, rfl⟩
theorem f3_7 : Dec method_3_code 7 (.invokestatic 13) 3 10 := ⟨by decide +kernel, rfl⟩
theorem f3_10 : Dec method_3_code 10 (.ireturn) 1 11 := ⟨by decide +kernel, rfl⟩
theorem pn_3 : plainFor (⟨"com/example/cartomesh/cartomesh/model/RectIntersectsPinLaw", "hi", "(I)I"⟩ : MethodName) = true := plainFor_of_name (show plainName "com/example/cartomesh/cartomesh/model/RectIntersectsPinLaw" = true by first | (simp [plainName, overriddenIn]; done) | decide +kernel)
theorem ef_3 (m : MethodId) (i : Int32) : entryFrame m #[(.int i)] 1 = mkF m 0 #[.val (.int i)] [] := by first | (simp [entryFrame, mkF, argsToLocals, Value.category]; done) | rfl
def Q3 (Z : State) (i : Int32) (h0 : Heap) (n0 : Nat) (v9 : Option Value) (h9 : Heap) (L9 : List Loc) : Prop := v9 = some (.int (R4 i.toInt8.toInt32 (i >>> ((8 : Int32) &&& 31)).toInt8.toInt32)) ∧ Fr n0 L9 ∧ h9 = h0
set_option maxRecDepth 65536 in
set_option maxHeartbeats 40000000 in
theorem rm3 (l : Launch) (Z : State) (a0 : Array Value) (hw : ∀ d ∈ tables_1, d.before a0 Z = true) (ws : List Jvm.Cond) (i : Int32) (h0 : Heap) (n0 : Nat) (Z0 : n0 ≤ h0.size) :
    MetFree l (⟨"com/example/cartomesh/cartomesh/model/RectIntersectsPinLaw", "hi", "(I)I"⟩ : MethodName) (head1 (Jvm.Cond.code (⟨"com/example/cartomesh/cartomesh/model/RectIntersectsPinLaw", "hi", "(I)I"⟩ : MethodName) method_3_code 1 (some .int) :: ws) ({ frames := 1, cells := 0, slots := 0, locals := 13 } : Room)) (fun A9 U9 => A9 = #[(.int i)] ∧ Z.Warmed39 U9.vm ∧ U9.heap = h0) (fun _ _ _ _ _ => True) (fun _ U9 o9 V9 => ∃ v9 L9, o9 = .returned v9 ∧ (Q3 Z i h0 n0) v9 V9.heap L9 ∧ FrameEnd U9 o9 V9 L9 ({ frames := 1, cells := 0, slots := 0, locals := 13 } : Room).cells ({ frames := 1, cells := 0, slots := 0, locals := 13 } : Room).slots) := by
  refine met_of (Q := (Q3 Z i h0 n0)) pn_3 ?_
  intro p e s m below meth c T0 C X0 e0
  have N0 := Fr.nil n0
  refine Go.cast (ef_3 m i) ?_
  refine wiloadN C X0 f3_0 rfl ?_
  refine wi2b C X0 f3_1 ?_
  refine wiloadN C X0 f3_2 rfl ?_
  refine wbipush C X0 f3_3 (8 : Int32) rfl ?_
  refine wishr C X0 f3_5 ?_
  refine wi2b C X0 f3_6 ?_
  refine wstatic C X0 (y := (⟨"java/lang/Math", "max", "(II)I"⟩ : MethodName)) (tw_11 hw) (tw_12 hw) (tw_6 hw) (tw_13 hw) (by decide) (rm4 l Z a0 hw [] i.toInt8.toInt32 ((i >>> ((8 : Int32) &&& 31)).toInt8.toInt32) h0 n0 Z0) e0 f3_7 (argsL := [(.int i.toInt8.toInt32), (.int (i >>> ((8 : Int32) &&& 31)).toInt8.toInt32)]) (rest := []) rfl rfl (lenOf pd_1 rfl) rfl (W := 0) (Nat.le_of_eq rfl) (by decide) (by decide) (by decide) (by decide) ?_
  intro v1 T1 L1 X1 q1
  obtain ⟨rfl, Nq1, eq1⟩ := q1
  have N1 := Fr.app N0 Nq1
  show Go p e below s _ _ _ T1 (mkF m 10 #[.val (.int i)] [(.int (R4 i.toInt8.toInt32 (i >>> ((8 : Int32) &&& 31)).toInt8.toInt32))])
  refine wiret C X1 f3_10 rfl (by decide) (by decide) ?_
  rw [eq1]
  exact ⟨rfl, N1, rfl⟩
theorem f8_0 : Dec prog_14_method_10_code 0 (.aload_n 0) 1 1 := ⟨by decide +kernel, rfl⟩
theorem f8_1 : Dec prog_14_method_10_code 1 (.getfield 7) 3 4 := ⟨by decide +kernel, rfl⟩
theorem f8_4 : Dec prog_14_method_10_code 4 (.aload_n 1) 1 5 := ⟨by decide +kernel, rfl⟩
theorem f8_5 : Dec prog_14_method_10_code 5 (.getfield 16) 3 8 := ⟨by decide +kernel, rfl⟩
theorem f8_8 : Dec prog_14_method_10_code 8 (.dcmp .g) 1 9 := ⟨by decide +kernel, rfl⟩
theorem f8_9 : DecJ prog_14_method_10_code 9 (.ifCond .gt 43) 43 52 12 := ⟨by decide +kernel, by decide, by decide, rfl⟩
theorem f8_12 : Dec prog_14_method_10_code 12 (.aload_n 1) 1 13 := ⟨by decide +kernel, rfl⟩
theorem f8_13 : Dec prog_14_method_10_code 13 (.getfield 7) 3 16 := ⟨by decide +kernel, rfl⟩
theorem f8_16 : Dec prog_14_method_10_code 16 (.aload_n 0) 1 17 := ⟨by decide +kernel, rfl⟩
theorem f8_17 : Dec prog_14_method_10_code 17 (.getfield 16) 3 20 := ⟨by decide +kernel, rfl⟩
theorem f8_20 : Dec prog_14_method_10_code 20 (.dcmp .g) 1 21 := ⟨by decide +kernel, rfl⟩
theorem f8_21 : DecJ prog_14_method_10_code 21 (.ifCond .gt 31) 31 52 24 := ⟨by decide +kernel, by decide, by decide, rfl⟩
theorem f8_24 : Dec prog_14_method_10_code 24 (.aload_n 0) 1 25 := ⟨by decide +kernel, rfl⟩
theorem f8_25 : Dec prog_14_method_10_code 25 (.getfield 13) 3 28 := ⟨by decide +kernel, rfl⟩
theorem f8_28 : Dec prog_14_method_10_code 28 (.aload_n 1) 1 29 := ⟨by decide +kernel, rfl⟩
theorem f8_29 : Dec prog_14_method_10_code 29 (.getfield 19) 3 32 := ⟨by decide +kernel, rfl⟩
theorem f8_32 : Dec prog_14_method_10_code 32 (.dcmp .g) 1 33 := ⟨by decide +kernel, rfl⟩
theorem f8_33 : DecJ prog_14_method_10_code 33 (.ifCond .gt 19) 19 52 36 := ⟨by decide +kernel, by decide, by decide, rfl⟩
theorem f8_36 : Dec prog_14_method_10_code 36 (.aload_n 1) 1 37 := ⟨by decide +kernel, rfl⟩
theorem f8_37 : Dec prog_14_method_10_code 37 (.getfield 13) 3 40 := ⟨by decide +kernel, rfl⟩
theorem f8_40 : Dec prog_14_method_10_code 40 (.aload_n 0) 1 41 := ⟨by decide +kernel, rfl⟩
theorem f8_41 : Dec prog_14_method_10_code 41 (.getfield 19) 3 44 := ⟨by decide +kernel, rfl⟩
theorem f8_44 : Dec prog_14_method_10_code 44 (.dcmp .g) 1 45 := ⟨by decide +kernel, rfl⟩
theorem f8_45 : DecJ prog_14_method_10_code 45 (.ifCond .gt 7) 7 52 48 := ⟨by decide +kernel, by decide, by decide, rfl⟩
theorem f8_48 : Dec prog_14_method_10_code 48 (.iconst 1) 1 49 := ⟨by decide +kernel, rfl⟩
theorem f8_49 : DecJ prog_14_method_10_code 49 (.goto 4) 4 53 52 := ⟨by decide +kernel, by decide, by decide, rfl⟩
theorem f8_52 : Dec prog_14_method_10_code 52 (.iconst 0) 1 53 := ⟨by decide +kernel, rfl⟩
theorem f8_53 : Dec prog_14_method_10_code 53 (.ireturn) 1 54 := ⟨by decide +kernel, rfl⟩
theorem pn_8 : plainFor (⟨"com/example/cartomesh/cartomesh/model/Rect", "intersects", "(Lcom/example/cartomesh/cartomesh/model/Rect;)Z"⟩ : MethodName) = true := plainFor_of_name (show plainName "com/example/cartomesh/cartomesh/model/Rect" = true by first | (simp [plainName, overriddenIn]; done) | decide +kernel)
theorem ef_8 (m : MethodId) (a : Addr) (b : Addr) : entryFrame m #[(.ref a), (.ref b)] 2 = mkF m 0 #[.val (.ref a), .val (.ref b)] [] := by first | (simp [entryFrame, mkF, argsToLocals, Value.category]; done) | rfl
def R8 (u1 : UInt64) (u2 : UInt64) (u3 : UInt64) (u4 : UInt64) (v1 : UInt64) (v2 : UInt64) (v3 : UInt64) (v4 : UInt64) : Int32 := (if (0 : Int32) < (cmpValue (FP.dcmp u1 v3) .g) then (0 : Int32) else (if (0 : Int32) < (cmpValue (FP.dcmp v1 u3) .g) then (0 : Int32) else (if (0 : Int32) < (cmpValue (FP.dcmp u2 v4) .g) then (0 : Int32) else (if (0 : Int32) < (cmpValue (FP.dcmp v2 u4) .g) then (0 : Int32) else (1 : Int32)))))
def Q8 (Z : State) (a : Addr) (b : Addr) (u1 : UInt64) (u2 : UInt64) (u3 : UInt64) (u4 : UInt64) (v1 : UInt64) (v2 : UInt64) (v3 : UInt64) (v4 : UInt64) (h0 : Heap) (n0 : Nat) (v9 : Option Value) (h9 : Heap) (L9 : List Loc) : Prop := v9 = some (.int (R8 u1 u2 u3 u4 v1 v2 v3 v4)) ∧ Fr n0 L9 ∧ h9 = h0
set_option maxRecDepth 65536 in
set_option maxHeartbeats 40000000 in
theorem rm8 (l : Launch) (Z : State) (a0 : Array Value) (hw : ∀ d ∈ tables_1, d.before a0 Z = true) (ws : List Jvm.Cond) (a : Addr) (b : Addr) (u1 : UInt64) (u2 : UInt64) (u3 : UInt64) (u4 : UInt64) (v1 : UInt64) (v2 : UInt64) (v3 : UInt64) (v4 : UInt64) (h0 : Heap) (n0 : Nat) (Z0 : n0 ≤ h0.size) (Fld_0 : Fld Z h0 a "com/example/cartomesh/cartomesh/model/Rect" "minX" "D" (.double u1)) (Fld_1 : Fld Z h0 a "com/example/cartomesh/cartomesh/model/Rect" "minY" "D" (.double u2)) (Fld_2 : Fld Z h0 a "com/example/cartomesh/cartomesh/model/Rect" "maxX" "D" (.double u3)) (Fld_3 : Fld Z h0 a "com/example/cartomesh/cartomesh/model/Rect" "maxY" "D" (.double u4)) (Fld_4 : Fld Z h0 b "com/example/cartomesh/cartomesh/model/Rect" "minX" "D" (.double v1)) (Fld_5 : Fld Z h0 b "com/example/cartomesh/cartomesh/model/Rect" "minY" "D" (.double v2)) (Fld_6 : Fld Z h0 b "com/example/cartomesh/cartomesh/model/Rect" "maxX" "D" (.double v3)) (Fld_7 : Fld Z h0 b "com/example/cartomesh/cartomesh/model/Rect" "maxY" "D" (.double v4)) :
    MetFree l (⟨"com/example/cartomesh/cartomesh/model/Rect", "intersects", "(Lcom/example/cartomesh/cartomesh/model/Rect;)Z"⟩ : MethodName) (head1 (Jvm.Cond.code (⟨"com/example/cartomesh/cartomesh/model/Rect", "intersects", "(Lcom/example/cartomesh/cartomesh/model/Rect;)Z"⟩ : MethodName) prog_14_method_10_code 2 (some .boolean) :: ws) ({ frames := 0, cells := 0, slots := 0, locals := 0 } : Room)) (fun A9 U9 => A9 = #[(.ref a), (.ref b)] ∧ Z.Warmed39 U9.vm ∧ U9.heap = h0) (fun _ _ _ _ _ => True) (fun _ U9 o9 V9 => ∃ v9 L9, o9 = .returned v9 ∧ (Q8 Z a b u1 u2 u3 u4 v1 v2 v3 v4 h0 n0) v9 V9.heap L9 ∧ FrameEnd U9 o9 V9 L9 ({ frames := 0, cells := 0, slots := 0, locals := 0 } : Room).cells ({ frames := 0, cells := 0, slots := 0, locals := 0 } : Room).slots) := by
  refine met_of (Q := (Q8 Z a b u1 u2 u3 u4 v1 v2 v3 v4 h0 n0)) pn_8 ?_
  intro p e s m below meth c T0 C X0 e0
  have N0 := Fr.nil n0
  refine Go.cast (ef_8 m a b) ?_
  refine waloadN C X0 f8_0 rfl rfl ?_
  refine wget C X0 (host := "") (Or.inl (tw_28 hw)) Via.refl e0 Fld_0 f8_1 ?_
  intro T1 X1 e1
  refine waloadN C X1 f8_4 rfl rfl ?_
  refine wget C X1 (host := "") (Or.inl (tw_32 hw)) Via.refl e1 Fld_6 f8_5 ?_
  intro T2 X2 e2
  refine wdcmp C X2 f8_8 (v := (cmpValue (FP.dcmp u1 v3) .g)) rfl ?_
  refine wif_gt C X2 f8_9 (fun hc9 => ?_) (fun hc9 => ?_)
  · refine wiconst C X2 f8_52 (0 : Int32) rfl ?_
    refine wiretN C X2 (t := .boolean) (by simp) f8_53 rfl (0 : Int32) (by decide) (by decide) (by decide) ?_
    rw [e2]
    exact ⟨(by unfold R8; rw [if_pos hc9]), N0, rfl⟩
  · refine waloadN C X2 f8_12 rfl rfl ?_
    refine wget C X2 (host := "") (Or.inl (tw_28 hw)) Via.refl e2 Fld_4 f8_13 ?_
    intro T3 X3 e3
    refine waloadN C X3 f8_16 rfl rfl ?_
    refine wget C X3 (host := "") (Or.inl (tw_32 hw)) Via.refl e3 Fld_2 f8_17 ?_
    intro T4 X4 e4
    refine wdcmp C X4 f8_20 (v := (cmpValue (FP.dcmp v1 u3) .g)) rfl ?_
    refine wif_gt C X4 f8_21 (fun hc21 => ?_) (fun hc21 => ?_)
    · refine wiconst C X4 f8_52 (0 : Int32) rfl ?_
      refine wiretN C X4 (t := .boolean) (by simp) f8_53 rfl (0 : Int32) (by decide) (by decide) (by decide) ?_
      rw [e4]
      exact ⟨(by unfold R8; rw [if_neg hc9, if_pos hc21]), N0, rfl⟩
    · refine waloadN C X4 f8_24 rfl rfl ?_
      refine wget C X4 (host := "") (Or.inl (tw_30 hw)) Via.refl e4 Fld_1 f8_25 ?_
      intro T5 X5 e5
      refine waloadN C X5 f8_28 rfl rfl ?_
      refine wget C X5 (host := "") (Or.inl (tw_34 hw)) Via.refl e5 Fld_7 f8_29 ?_
      intro T6 X6 e6
      refine wdcmp C X6 f8_32 (v := (cmpValue (FP.dcmp u2 v4) .g)) rfl ?_
      refine wif_gt C X6 f8_33 (fun hc33 => ?_) (fun hc33 => ?_)
      · refine wiconst C X6 f8_52 (0 : Int32) rfl ?_
        refine wiretN C X6 (t := .boolean) (by simp) f8_53 rfl (0 : Int32) (by decide) (by decide) (by decide) ?_
        rw [e6]
        exact ⟨(by unfold R8; rw [if_neg hc9, if_neg hc21, if_pos hc33]), N0, rfl⟩
      · refine waloadN C X6 f8_36 rfl rfl ?_
        refine wget C X6 (host := "") (Or.inl (tw_30 hw)) Via.refl e6 Fld_5 f8_37 ?_
        intro T7 X7 e7
        refine waloadN C X7 f8_40 rfl rfl ?_
        refine wget C X7 (host := "") (Or.inl (tw_34 hw)) Via.refl e7 Fld_3 f8_41 ?_
        intro T8 X8 e8
        refine wdcmp C X8 f8_44 (v := (cmpValue (FP.dcmp v2 u4) .g)) rfl ?_
        refine wif_gt C X8 f8_45 (fun hc45 => ?_) (fun hc45 => ?_)
        · refine wiconst C X8 f8_52 (0 : Int32) rfl ?_
          refine wiretN C X8 (t := .boolean) (by simp) f8_53 rfl (0 : Int32) (by decide) (by decide) (by decide) ?_
          rw [e8]
          exact ⟨(by unfold R8; rw [if_neg hc9, if_neg hc21, if_neg hc33, if_pos hc45]), N0, rfl⟩
        · refine wiconst C X8 f8_48 (1 : Int32) rfl ?_
          refine wgoto C X8 f8_49 ?_
          refine wiretN C X8 (t := .boolean) (by simp) f8_53 rfl (1 : Int32) (by decide) (by decide) (by decide) ?_
          rw [e8]
          exact ⟨(by unfold R8; rw [if_neg hc9, if_neg hc21, if_neg hc33, if_neg hc45]), N0, rfl⟩
theorem own_b32 (x : Int32) : B53 x.toInt64 := by
  have r := rng32 x
  unfold B53; rw [c_i2l]; omega
theorem own_gt (x y : Int32) : (0 : Int32) < cmpValue (FP.dcmp (FP.i2d x) (FP.i2d y)) .g ↔ y.toInt < x.toInt := by
  rw [i2d_w, i2d_w, dcmpV_w (own_b32 x) (own_b32 y), lw_gt, Int64.lt_iff_toInt_lt, c_i2l, c_i2l]
theorem own_min (x y : Int32) : (R2 x y).toInt = min x.toInt y.toInt := by
  unfold R2; split
  · rename_i h; rw [Int32.lt_iff_toInt_lt] at h; omega
  · rename_i h; rw [Int32.lt_iff_toInt_lt] at h; omega
theorem own_max (x y : Int32) : (R4 x y).toInt = max x.toInt y.toInt := by
  unfold R4; split
  · rename_i h; rw [Int32.lt_iff_toInt_lt] at h; omega
  · rename_i h; rw [Int32.lt_iff_toInt_lt] at h; omega
theorem own_int {a b c d a' b' c' d' : Int32} (h1 : a.toInt ≤ c.toInt) (h2 : b.toInt ≤ d.toInt) (h3 : a'.toInt ≤ c'.toInt) (h4 : b'.toInt ≤ d'.toInt) : R8 (FP.i2d a) (FP.i2d b) (FP.i2d c) (FP.i2d d) (FP.i2d a') (FP.i2d b') (FP.i2d c') (FP.i2d d') = if (R4 a a').toInt ≤ (R2 c c').toInt ∧ (R4 b b').toInt ≤ (R2 d d').toInt then 1 else 0 := by
  unfold R8
  simp only [own_gt, own_min, own_max]
  repeat' split
  all_goals first | rfl | omega
theorem own_int' {a b c d a' b' c' d' : Int32} (h1 : a.toInt ≤ c.toInt) (h2 : b.toInt ≤ d.toInt) (h3 : a'.toInt ≤ c'.toInt) (h4 : b'.toInt ≤ d'.toInt) : R8 (FP.i2d a') (FP.i2d b') (FP.i2d c') (FP.i2d d') (FP.i2d a) (FP.i2d b) (FP.i2d c) (FP.i2d d) = if (R4 a a').toInt ≤ (R2 c c').toInt ∧ (R4 b b').toInt ≤ (R2 d d').toInt then 1 else 0 := by
  unfold R8
  simp only [own_gt, own_min, own_max]
  repeat' split
  all_goals first | rfl | omega
theorem own_le (x y : Int32) : (R2 x y).toInt ≤ (R4 x y).toInt := by rw [own_min, own_max]; omega
theorem f0_0 : Dec code 0 (.iload_n 0) 1 1 := ⟨by decide +kernel, rfl⟩
theorem f0_1 : Dec code 1 (.invokestatic 16) 3 4 := ⟨by decide +kernel, rfl⟩
theorem f0_4 : Dec code 4 (.istore 4) 2 6 := ⟨by decide +kernel, rfl⟩
theorem f0_6 : Dec code 6 (.iload_n 0) 1 7 := ⟨by decide +kernel, rfl⟩
theorem f0_7 : Dec code 7 (.invokestatic 22) 3 10 := ⟨by decide +kernel, rfl⟩
theorem f0_10 : Dec code 10 (.istore 5) 2 12 := ⟨by decide +kernel, rfl⟩
theorem f0_12 : Dec code 12 (.iload_n 1) 1 13 := ⟨by decide +kernel, rfl⟩
theorem f0_13 : Dec code 13 (.invokestatic 16) 3 16 := ⟨by decide +kernel, rfl⟩
theorem f0_16 : Dec code 16 (.istore 6) 2 18 := ⟨by decide +kernel, rfl⟩
theorem f0_18 : Dec code 18 (.iload_n 1) 1 19 := ⟨by decide +kernel, rfl⟩
theorem f0_19 : Dec code 19 (.invokestatic 22) 3 22 := ⟨by decide +kernel, rfl⟩
theorem f0_22 : Dec code 22 (.istore 7) 2 24 := ⟨by decide +kernel, rfl⟩
theorem f0_24 : Dec code 24 (.iload_n 2) 1 25 := ⟨by decide +kernel, rfl⟩
theorem f0_25 : Dec code 25 (.invokestatic 16) 3 28 := ⟨by decide +kernel, rfl⟩
theorem f0_28 : Dec code 28 (.istore 8) 2 30 := ⟨by decide +kernel, rfl⟩
theorem f0_30 : Dec code 30 (.iload_n 2) 1 31 := ⟨by decide +kernel, rfl⟩
theorem f0_31 : Dec code 31 (.invokestatic 22) 3 34 := ⟨by decide +kernel, rfl⟩
theorem f0_34 : Dec code 34 (.istore 9) 2 36 := ⟨by decide +kernel, rfl⟩
theorem f0_36 : Dec code 36 (.iload_n 3) 1 37 := ⟨by decide +kernel, rfl⟩
theorem f0_37 : Dec code 37 (.invokestatic 16) 3 40 := ⟨by decide +kernel, rfl⟩
theorem f0_40 : Dec code 40 (.istore 10) 2 42 := ⟨by decide +kernel, rfl⟩
theorem f0_42 : Dec code 42 (.iload_n 3) 1 43 := ⟨by decide +kernel, rfl⟩
theorem f0_43 : Dec code 43 (.invokestatic 22) 3 46 := ⟨by decide +kernel, rfl⟩
theorem f0_46 : Dec code 46 (.istore 11) 2 48 := ⟨by decide +kernel, rfl⟩
theorem f0_48 : Dec code 48 (.new 25) 3 51 := ⟨by decide +kernel, rfl⟩
theorem f0_51 : Dec code 51 (.dup) 1 52 := ⟨by decide +kernel, rfl⟩
theorem f0_52 : Dec code 52 (.iload 4) 2 54 := ⟨by decide +kernel, rfl⟩
theorem f0_54 : Dec code 54 (.i2d) 1 55 := ⟨by decide +kernel, rfl⟩
theorem f0_55 : Dec code 55 (.iload 6) 2 57 := ⟨by decide +kernel, rfl⟩
theorem f0_57 : Dec code 57 (.i2d) 1 58 := ⟨by decide +kernel, rfl⟩
theorem f0_58 : Dec code 58 (.iload 5) 2 60 := ⟨by decide +kernel, rfl⟩
theorem f0_60 : Dec code 60 (.i2d) 1 61 := ⟨by decide +kernel, rfl⟩
theorem f0_61 : Dec code 61 (.iload 7) 2 63 := ⟨by decide +kernel, rfl⟩
theorem f0_63 : Dec code 63 (.i2d) 1 64 := ⟨by decide +kernel, rfl⟩
theorem f0_64 : Dec code 64 (.invokespecial 27) 3 67 := ⟨by decide +kernel, rfl⟩
theorem f0_67 : Dec code 67 (.astore 12) 2 69 := ⟨by decide +kernel, rfl⟩
theorem f0_69 : Dec code 69 (.new 25) 3 72 := ⟨by decide +kernel, rfl⟩
theorem f0_72 : Dec code 72 (.dup) 1 73 := ⟨by decide +kernel, rfl⟩
theorem f0_73 : Dec code 73 (.iload 8) 2 75 := ⟨by decide +kernel, rfl⟩
theorem f0_75 : Dec code 75 (.i2d) 1 76 := ⟨by decide +kernel, rfl⟩
theorem f0_76 : Dec code 76 (.iload 10) 2 78 := ⟨by decide +kernel, rfl⟩
theorem f0_78 : Dec code 78 (.i2d) 1 79 := ⟨by decide +kernel, rfl⟩
theorem f0_79 : Dec code 79 (.iload 9) 2 81 := ⟨by decide +kernel, rfl⟩
theorem f0_81 : Dec code 81 (.i2d) 1 82 := ⟨by decide +kernel, rfl⟩
theorem f0_82 : Dec code 82 (.iload 11) 2 84 := ⟨by decide +kernel, rfl⟩
theorem f0_84 : Dec code 84 (.i2d) 1 85 := ⟨by decide +kernel, rfl⟩
theorem f0_85 : Dec code 85 (.invokespecial 27) 3 88 := ⟨by decide +kernel, rfl⟩
theorem f0_88 : Dec code 88 (.astore 13) 2 90 := ⟨by decide +kernel, rfl⟩
theorem f0_90 : Dec code 90 (.iload 4) 2 92 := ⟨by decide +kernel, rfl⟩
theorem f0_92 : Dec code 92 (.iload 8) 2 94 := ⟨by decide +kernel, rfl⟩
theorem f0_94 : Dec code 94 (.invokestatic 13) 3 97 := ⟨by decide +kernel, rfl⟩
theorem f0_97 : Dec code 97 (.iload 5) 2 99 := ⟨by decide +kernel, rfl⟩
theorem f0_99 : Dec code 99 (.iload 9) 2 101 := ⟨by decide +kernel, rfl⟩
theorem f0_101 : Dec code 101 (.invokestatic 7) 3 104 := ⟨by decide +kernel, rfl⟩
theorem f0_104 : DecJ code 104 (.if_icmp .gt 7) 7 111 107 := ⟨by decide +kernel, by decide, by decide, rfl⟩
theorem f0_107 : Dec code 107 (.iconst 1) 1 108 := ⟨by decide +kernel, rfl⟩
theorem f0_108 : DecJ code 108 (.goto 4) 4 112 111 := ⟨by decide +kernel, by decide, by decide, rfl⟩
theorem f0_111 : Dec code 111 (.iconst 0) 1 112 := ⟨by decide +kernel, rfl⟩
theorem f0_112 : Dec code 112 (.istore 14) 2 114 := ⟨by decide +kernel, rfl⟩
theorem f0_114 : Dec code 114 (.iload 6) 2 116 := ⟨by decide +kernel, rfl⟩
theorem f0_116 : Dec code 116 (.iload 10) 2 118 := ⟨by decide +kernel, rfl⟩
theorem f0_118 : Dec code 118 (.invokestatic 13) 3 121 := ⟨by decide +kernel, rfl⟩
theorem f0_121 : Dec code 121 (.iload 7) 2 123 := ⟨by decide +kernel, rfl⟩
theorem f0_123 : Dec code 123 (.iload 11) 2 125 := ⟨by decide +kernel, rfl⟩
theorem f0_125 : Dec code 125 (.invokestatic 7) 3 128 := ⟨by decide +kernel, rfl⟩
theorem f0_128 : DecJ code 128 (.if_icmp .gt 7) 7 135 131 := ⟨by decide +kernel, by decide, by decide, rfl⟩
theorem f0_131 : Dec code 131 (.iconst 1) 1 132 := ⟨by decide +kernel, rfl⟩
theorem f0_132 : DecJ code 132 (.goto 4) 4 136 135 := ⟨by decide +kernel, by decide, by decide, rfl⟩
theorem f0_135 : Dec code 135 (.iconst 0) 1 136 := ⟨by decide +kernel, rfl⟩
theorem f0_136 : Dec code 136 (.istore 15) 2 138 := ⟨by decide +kernel, rfl⟩
theorem f0_138 : Dec code 138 (.iload 14) 2 140 := ⟨by decide +kernel, rfl⟩
theorem f0_140 : DecJ code 140 (.ifCond .eq 12) 12 152 143 := ⟨by decide +kernel, by decide, by decide, rfl⟩
theorem f0_143 : Dec code 143 (.iload 15) 2 145 := ⟨by decide +kernel, rfl⟩
theorem f0_145 : DecJ code 145 (.ifCond .eq 7) 7 152 148 := ⟨by decide +kernel, by decide, by decide, rfl⟩
theorem f0_148 : Dec code 148 (.iconst 1) 1 149 := ⟨by decide +kernel, rfl⟩
theorem f0_149 : DecJ code 149 (.goto 4) 4 153 152 := ⟨by decide +kernel, by decide, by decide, rfl⟩
theorem f0_152 : Dec code 152 (.iconst 0) 1 153 := ⟨by decide +kernel, rfl⟩
theorem f0_153 : Dec code 153 (.istore 16) 2 155 := ⟨by decide +kernel, rfl⟩
theorem f0_155 : Dec code 155 (.aload 12) 2 157 := ⟨by decide +kernel, rfl⟩
theorem f0_157 : Dec code 157 (.aload 13) 2 159 := ⟨by decide +kernel, rfl⟩
theorem f0_159 : Dec code 159 (.invokevirtual 30) 3 162 := ⟨by decide +kernel, rfl⟩
theorem f0_162 : Dec code 162 (.iload 16) 2 164 := ⟨by decide +kernel, rfl⟩
theorem f0_164 : DecJ code 164 (.if_icmp .ne 19) 19 183 167 := ⟨by decide +kernel, by decide, by decide, rfl⟩
theorem f0_167 : Dec code 167 (.aload 13) 2 169 := ⟨by decide +kernel, rfl⟩
theorem f0_169 : Dec code 169 (.aload 12) 2 171 := ⟨by decide +kernel, rfl⟩
theorem f0_171 : Dec code 171 (.invokevirtual 30) 3 174 := ⟨by decide +kernel, rfl⟩
theorem f0_174 : Dec code 174 (.iload 16) 2 176 := ⟨by decide +kernel, rfl⟩
theorem f0_176 : DecJ code 176 (.if_icmp .ne 7) 7 183 179 := ⟨by decide +kernel, by decide, by decide, rfl⟩
theorem f0_179 : Dec code 179 (.iconst 1) 1 180 := ⟨by decide +kernel, rfl⟩
theorem f0_180 : DecJ code 180 (.goto 4) 4 184 183 := ⟨by decide +kernel, by decide, by decide, rfl⟩
theorem f0_184 : Dec code 184 (.ireturn) 1 185 := ⟨by decide +kernel, rfl⟩
theorem pn_0 : plainFor x = true := plainFor_of_name (show plainName "com/example/cartomesh/cartomesh/model/RectIntersectsPinLaw" = true by first | (simp [plainName, overriddenIn]; done) | decide +kernel)
theorem ef_0 (m : MethodId) (x1 : Int32) (y1 : Int32) (x2 : Int32) (y2 : Int32) : entryFrame m #[(.int x1), (.int y1), (.int x2), (.int y2)] maxLocals = mkF m 0 #[.val (.int x1), .val (.int y1), .val (.int x2), .val (.int y2), .unset, .unset, .unset, .unset, .unset, .unset, .unset, .unset, .unset, .unset, .unset, .unset, .unset] [] := by first | (simp [entryFrame, mkF, argsToLocals, Value.category, maxLocals]; done) | rfl
def Q0 (n0 : Nat) (v : Option Value) (h : Heap) (L : List Loc) : Prop := v = some (.int 1) ∧ Fr n0 L
set_option maxRecDepth 65536 in
set_option maxHeartbeats 40000000 in
theorem rm0 (l : Launch) (Z : State) (a0 : Array Value) (hw : ∀ d ∈ tables_1, d.before a0 Z = true) (ws : List Jvm.Cond) (x1 : Int32) (y1 : Int32) (x2 : Int32) (y2 : Int32) (h0 : Heap) (n0 : Nat) (Z0 : n0 ≤ h0.size) :
    MetFree l x (head1 (Jvm.Cond.code x code maxLocals ret :: ws) room_1) (fun A9 U9 => A9 = #[(.int x1), (.int y1), (.int x2), (.int y2)] ∧ Z.Warmed39 U9.vm ∧ U9.heap = h0) (fun _ _ _ _ _ => True) (fun _ U9 o9 V9 => ∃ v9 L9, o9 = .returned v9 ∧ (Q0 n0) v9 V9.heap L9 ∧ FrameEnd U9 o9 V9 L9 room_1.cells room_1.slots) := by
  refine met_of (Q := (Q0 n0)) pn_0 ?_
  intro p e s m below meth c T0 C X0 e0
  have N0 := Fr.nil n0
  refine Go.cast (ef_0 m x1 y1 x2 y2) ?_
  refine wiloadN C X0 f0_0 rfl ?_
  refine wstatic C X0 (y := (⟨"com/example/cartomesh/cartomesh/model/RectIntersectsPinLaw", "lo", "(I)I"⟩ : MethodName)) (tw_0 hw) (tw_1 hw) (tw_2 hw) (tw_3 hw) (by decide) (rm1 l Z a0 hw [] x1 h0 n0 Z0) e0 f0_1 (argsL := [(.int x1)]) (rest := []) rfl rfl (lenOf pd_2 rfl) rfl (W := 0) (Nat.le_of_eq rfl) (by decide) (by decide) (by decide) (by decide) ?_
  intro v1 T1 L1 X1 q1
  obtain ⟨rfl, Nq1, eq1⟩ := q1
  have N1 := Fr.app N0 Nq1
  show Go p e below s _ _ _ T1 (mkF m 4 #[.val (.int x1), .val (.int y1), .val (.int x2), .val (.int y2), .unset, .unset, .unset, .unset, .unset, .unset, .unset, .unset, .unset, .unset, .unset, .unset, .unset] [(.int (R2 x1.toInt8.toInt32 (x1 >>> ((8 : Int32) &&& 31)).toInt8.toInt32))])
  refine wistore C X1 f0_4 #[.val (.int x1), .val (.int y1), .val (.int x2), .val (.int y2), .val (.int (R2 x1.toInt8.toInt32 (x1 >>> ((8 : Int32) &&& 31)).toInt8.toInt32)), .unset, .unset, .unset, .unset, .unset, .unset, .unset, .unset, .unset, .unset, .unset, .unset] rfl ?_
  refine wiloadN C X1 f0_6 rfl ?_
  refine wstatic C X1 (y := (⟨"com/example/cartomesh/cartomesh/model/RectIntersectsPinLaw", "hi", "(I)I"⟩ : MethodName)) (tw_8 hw) (tw_9 hw) (tw_2 hw) (tw_10 hw) (by decide) (rm3 l Z a0 hw [] x1 h0 n0 Z0) eq1 f0_7 (argsL := [(.int x1)]) (rest := []) rfl rfl (lenOf pd_2 rfl) rfl (W := 0) (Nat.le_of_eq rfl) (by decide) (by decide) (by decide) (by decide) ?_
  intro v2 T2 L2 X2 q2
  obtain ⟨rfl, Nq2, eq2⟩ := q2
  have N2 := Fr.app N1 Nq2
  show Go p e below s _ _ _ T2 (mkF m 10 #[.val (.int x1), .val (.int y1), .val (.int x2), .val (.int y2), .val (.int (R2 x1.toInt8.toInt32 (x1 >>> ((8 : Int32) &&& 31)).toInt8.toInt32)), .unset, .unset, .unset, .unset, .unset, .unset, .unset, .unset, .unset, .unset, .unset, .unset] [(.int (R4 x1.toInt8.toInt32 (x1 >>> ((8 : Int32) &&& 31)).toInt8.toInt32))])
  refine wistore C X2 f0_10 #[.val (.int x1), .val (.int y1), .val (.int x2), .val (.int y2), .val (.int (R2 x1.toInt8.toInt32 (x1 >>> ((8 : Int32) &&& 31)).toInt8.toInt32)), .val (.int (R4 x1.toInt8.toInt32 (x1 >>> ((8 : Int32) &&& 31)).toInt8.toInt32)), .unset, .unset, .unset, .unset, .unset, .unset, .unset, .unset, .unset, .unset, .unset] rfl ?_
  refine wiloadN C X2 f0_12 rfl ?_
  refine wstatic C X2 (y := (⟨"com/example/cartomesh/cartomesh/model/RectIntersectsPinLaw", "lo", "(I)I"⟩ : MethodName)) (tw_0 hw) (tw_1 hw) (tw_2 hw) (tw_3 hw) (by decide) (rm1 l Z a0 hw [] y1 h0 n0 Z0) eq2 f0_13 (argsL := [(.int y1)]) (rest := []) rfl rfl (lenOf pd_2 rfl) rfl (W := 0) (Nat.le_of_eq rfl) (by decide) (by decide) (by decide) (by decide) ?_
  intro v3 T3 L3 X3 q3
  obtain ⟨rfl, Nq3, eq3⟩ := q3
  have N3 := Fr.app N2 Nq3
  show Go p e below s _ _ _ T3 (mkF m 16 #[.val (.int x1), .val (.int y1), .val (.int x2), .val (.int y2), .val (.int (R2 x1.toInt8.toInt32 (x1 >>> ((8 : Int32) &&& 31)).toInt8.toInt32)), .val (.int (R4 x1.toInt8.toInt32 (x1 >>> ((8 : Int32) &&& 31)).toInt8.toInt32)), .unset, .unset, .unset, .unset, .unset, .unset, .unset, .unset, .unset, .unset, .unset] [(.int (R2 y1.toInt8.toInt32 (y1 >>> ((8 : Int32) &&& 31)).toInt8.toInt32))])
  refine wistore C X3 f0_16 #[.val (.int x1), .val (.int y1), .val (.int x2), .val (.int y2), .val (.int (R2 x1.toInt8.toInt32 (x1 >>> ((8 : Int32) &&& 31)).toInt8.toInt32)), .val (.int (R4 x1.toInt8.toInt32 (x1 >>> ((8 : Int32) &&& 31)).toInt8.toInt32)), .val (.int (R2 y1.toInt8.toInt32 (y1 >>> ((8 : Int32) &&& 31)).toInt8.toInt32)), .unset, .unset, .unset, .unset, .unset, .unset, .unset, .unset, .unset, .unset] rfl ?_
  refine wiloadN C X3 f0_18 rfl ?_
  refine wstatic C X3 (y := (⟨"com/example/cartomesh/cartomesh/model/RectIntersectsPinLaw", "hi", "(I)I"⟩ : MethodName)) (tw_8 hw) (tw_9 hw) (tw_2 hw) (tw_10 hw) (by decide) (rm3 l Z a0 hw [] y1 h0 n0 Z0) eq3 f0_19 (argsL := [(.int y1)]) (rest := []) rfl rfl (lenOf pd_2 rfl) rfl (W := 0) (Nat.le_of_eq rfl) (by decide) (by decide) (by decide) (by decide) ?_
  intro v4 T4 L4 X4 q4
  obtain ⟨rfl, Nq4, eq4⟩ := q4
  have N4 := Fr.app N3 Nq4
  show Go p e below s _ _ _ T4 (mkF m 22 #[.val (.int x1), .val (.int y1), .val (.int x2), .val (.int y2), .val (.int (R2 x1.toInt8.toInt32 (x1 >>> ((8 : Int32) &&& 31)).toInt8.toInt32)), .val (.int (R4 x1.toInt8.toInt32 (x1 >>> ((8 : Int32) &&& 31)).toInt8.toInt32)), .val (.int (R2 y1.toInt8.toInt32 (y1 >>> ((8 : Int32) &&& 31)).toInt8.toInt32)), .unset, .unset, .unset, .unset, .unset, .unset, .unset, .unset, .unset, .unset] [(.int (R4 y1.toInt8.toInt32 (y1 >>> ((8 : Int32) &&& 31)).toInt8.toInt32))])
  refine wistore C X4 f0_22 #[.val (.int x1), .val (.int y1), .val (.int x2), .val (.int y2), .val (.int (R2 x1.toInt8.toInt32 (x1 >>> ((8 : Int32) &&& 31)).toInt8.toInt32)), .val (.int (R4 x1.toInt8.toInt32 (x1 >>> ((8 : Int32) &&& 31)).toInt8.toInt32)), .val (.int (R2 y1.toInt8.toInt32 (y1 >>> ((8 : Int32) &&& 31)).toInt8.toInt32)), .val (.int (R4 y1.toInt8.toInt32 (y1 >>> ((8 : Int32) &&& 31)).toInt8.toInt32)), .unset, .unset, .unset, .unset, .unset, .unset, .unset, .unset, .unset] rfl ?_
  refine wiloadN C X4 f0_24 rfl ?_
  refine wstatic C X4 (y := (⟨"com/example/cartomesh/cartomesh/model/RectIntersectsPinLaw", "lo", "(I)I"⟩ : MethodName)) (tw_0 hw) (tw_1 hw) (tw_2 hw) (tw_3 hw) (by decide) (rm1 l Z a0 hw [] x2 h0 n0 Z0) eq4 f0_25 (argsL := [(.int x2)]) (rest := []) rfl rfl (lenOf pd_2 rfl) rfl (W := 0) (Nat.le_of_eq rfl) (by decide) (by decide) (by decide) (by decide) ?_
  intro v5 T5 L5 X5 q5
  obtain ⟨rfl, Nq5, eq5⟩ := q5
  have N5 := Fr.app N4 Nq5
  show Go p e below s _ _ _ T5 (mkF m 28 #[.val (.int x1), .val (.int y1), .val (.int x2), .val (.int y2), .val (.int (R2 x1.toInt8.toInt32 (x1 >>> ((8 : Int32) &&& 31)).toInt8.toInt32)), .val (.int (R4 x1.toInt8.toInt32 (x1 >>> ((8 : Int32) &&& 31)).toInt8.toInt32)), .val (.int (R2 y1.toInt8.toInt32 (y1 >>> ((8 : Int32) &&& 31)).toInt8.toInt32)), .val (.int (R4 y1.toInt8.toInt32 (y1 >>> ((8 : Int32) &&& 31)).toInt8.toInt32)), .unset, .unset, .unset, .unset, .unset, .unset, .unset, .unset, .unset] [(.int (R2 x2.toInt8.toInt32 (x2 >>> ((8 : Int32) &&& 31)).toInt8.toInt32))])
  refine wistore C X5 f0_28 #[.val (.int x1), .val (.int y1), .val (.int x2), .val (.int y2), .val (.int (R2 x1.toInt8.toInt32 (x1 >>> ((8 : Int32) &&& 31)).toInt8.toInt32)), .val (.int (R4 x1.toInt8.toInt32 (x1 >>> ((8 : Int32) &&& 31)).toInt8.toInt32)), .val (.int (R2 y1.toInt8.toInt32 (y1 >>> ((8 : Int32) &&& 31)).toInt8.toInt32)), .val (.int (R4 y1.toInt8.toInt32 (y1 >>> ((8 : Int32) &&& 31)).toInt8.toInt32)), .val (.int (R2 x2.toInt8.toInt32 (x2 >>> ((8 : Int32) &&& 31)).toInt8.toInt32)), .unset, .unset, .unset, .unset, .unset, .unset, .unset, .unset] rfl ?_
  refine wiloadN C X5 f0_30 rfl ?_
  refine wstatic C X5 (y := (⟨"com/example/cartomesh/cartomesh/model/RectIntersectsPinLaw", "hi", "(I)I"⟩ : MethodName)) (tw_8 hw) (tw_9 hw) (tw_2 hw) (tw_10 hw) (by decide) (rm3 l Z a0 hw [] x2 h0 n0 Z0) eq5 f0_31 (argsL := [(.int x2)]) (rest := []) rfl rfl (lenOf pd_2 rfl) rfl (W := 0) (Nat.le_of_eq rfl) (by decide) (by decide) (by decide) (by decide) ?_
  intro v6 T6 L6 X6 q6
  obtain ⟨rfl, Nq6, eq6⟩ := q6
  have N6 := Fr.app N5 Nq6
  show Go p e below s _ _ _ T6 (mkF m 34 #[.val (.int x1), .val (.int y1), .val (.int x2), .val (.int y2), .val (.int (R2 x1.toInt8.toInt32 (x1 >>> ((8 : Int32) &&& 31)).toInt8.toInt32)), .val (.int (R4 x1.toInt8.toInt32 (x1 >>> ((8 : Int32) &&& 31)).toInt8.toInt32)), .val (.int (R2 y1.toInt8.toInt32 (y1 >>> ((8 : Int32) &&& 31)).toInt8.toInt32)), .val (.int (R4 y1.toInt8.toInt32 (y1 >>> ((8 : Int32) &&& 31)).toInt8.toInt32)), .val (.int (R2 x2.toInt8.toInt32 (x2 >>> ((8 : Int32) &&& 31)).toInt8.toInt32)), .unset, .unset, .unset, .unset, .unset, .unset, .unset, .unset] [(.int (R4 x2.toInt8.toInt32 (x2 >>> ((8 : Int32) &&& 31)).toInt8.toInt32))])
  refine wistore C X6 f0_34 #[.val (.int x1), .val (.int y1), .val (.int x2), .val (.int y2), .val (.int (R2 x1.toInt8.toInt32 (x1 >>> ((8 : Int32) &&& 31)).toInt8.toInt32)), .val (.int (R4 x1.toInt8.toInt32 (x1 >>> ((8 : Int32) &&& 31)).toInt8.toInt32)), .val (.int (R2 y1.toInt8.toInt32 (y1 >>> ((8 : Int32) &&& 31)).toInt8.toInt32)), .val (.int (R4 y1.toInt8.toInt32 (y1 >>> ((8 : Int32) &&& 31)).toInt8.toInt32)), .val (.int (R2 x2.toInt8.toInt32 (x2 >>> ((8 : Int32) &&& 31)).toInt8.toInt32)), .val (.int (R4 x2.toInt8.toInt32 (x2 >>> ((8 : Int32) &&& 31)).toInt8.toInt32)), .unset, .unset, .unset, .unset, .unset, .unset, .unset] rfl ?_
  refine wiloadN C X6 f0_36 rfl ?_
  refine wstatic C X6 (y := (⟨"com/example/cartomesh/cartomesh/model/RectIntersectsPinLaw", "lo", "(I)I"⟩ : MethodName)) (tw_0 hw) (tw_1 hw) (tw_2 hw) (tw_3 hw) (by decide) (rm1 l Z a0 hw [] y2 h0 n0 Z0) eq6 f0_37 (argsL := [(.int y2)]) (rest := []) rfl rfl (lenOf pd_2 rfl) rfl (W := 0) (Nat.le_of_eq rfl) (by decide) (by decide) (by decide) (by decide) ?_
  intro v7 T7 L7 X7 q7
  obtain ⟨rfl, Nq7, eq7⟩ := q7
  have N7 := Fr.app N6 Nq7
  show Go p e below s _ _ _ T7 (mkF m 40 #[.val (.int x1), .val (.int y1), .val (.int x2), .val (.int y2), .val (.int (R2 x1.toInt8.toInt32 (x1 >>> ((8 : Int32) &&& 31)).toInt8.toInt32)), .val (.int (R4 x1.toInt8.toInt32 (x1 >>> ((8 : Int32) &&& 31)).toInt8.toInt32)), .val (.int (R2 y1.toInt8.toInt32 (y1 >>> ((8 : Int32) &&& 31)).toInt8.toInt32)), .val (.int (R4 y1.toInt8.toInt32 (y1 >>> ((8 : Int32) &&& 31)).toInt8.toInt32)), .val (.int (R2 x2.toInt8.toInt32 (x2 >>> ((8 : Int32) &&& 31)).toInt8.toInt32)), .val (.int (R4 x2.toInt8.toInt32 (x2 >>> ((8 : Int32) &&& 31)).toInt8.toInt32)), .unset, .unset, .unset, .unset, .unset, .unset, .unset] [(.int (R2 y2.toInt8.toInt32 (y2 >>> ((8 : Int32) &&& 31)).toInt8.toInt32))])
  refine wistore C X7 f0_40 #[.val (.int x1), .val (.int y1), .val (.int x2), .val (.int y2), .val (.int (R2 x1.toInt8.toInt32 (x1 >>> ((8 : Int32) &&& 31)).toInt8.toInt32)), .val (.int (R4 x1.toInt8.toInt32 (x1 >>> ((8 : Int32) &&& 31)).toInt8.toInt32)), .val (.int (R2 y1.toInt8.toInt32 (y1 >>> ((8 : Int32) &&& 31)).toInt8.toInt32)), .val (.int (R4 y1.toInt8.toInt32 (y1 >>> ((8 : Int32) &&& 31)).toInt8.toInt32)), .val (.int (R2 x2.toInt8.toInt32 (x2 >>> ((8 : Int32) &&& 31)).toInt8.toInt32)), .val (.int (R4 x2.toInt8.toInt32 (x2 >>> ((8 : Int32) &&& 31)).toInt8.toInt32)), .val (.int (R2 y2.toInt8.toInt32 (y2 >>> ((8 : Int32) &&& 31)).toInt8.toInt32)), .unset, .unset, .unset, .unset, .unset, .unset] rfl ?_
  refine wiloadN C X7 f0_42 rfl ?_
  refine wstatic C X7 (y := (⟨"com/example/cartomesh/cartomesh/model/RectIntersectsPinLaw", "hi", "(I)I"⟩ : MethodName)) (tw_8 hw) (tw_9 hw) (tw_2 hw) (tw_10 hw) (by decide) (rm3 l Z a0 hw [] y2 h0 n0 Z0) eq7 f0_43 (argsL := [(.int y2)]) (rest := []) rfl rfl (lenOf pd_2 rfl) rfl (W := 0) (Nat.le_of_eq rfl) (by decide) (by decide) (by decide) (by decide) ?_
  intro v8 T8 L8 X8 q8
  obtain ⟨rfl, Nq8, eq8⟩ := q8
  have N8 := Fr.app N7 Nq8
  show Go p e below s _ _ _ T8 (mkF m 46 #[.val (.int x1), .val (.int y1), .val (.int x2), .val (.int y2), .val (.int (R2 x1.toInt8.toInt32 (x1 >>> ((8 : Int32) &&& 31)).toInt8.toInt32)), .val (.int (R4 x1.toInt8.toInt32 (x1 >>> ((8 : Int32) &&& 31)).toInt8.toInt32)), .val (.int (R2 y1.toInt8.toInt32 (y1 >>> ((8 : Int32) &&& 31)).toInt8.toInt32)), .val (.int (R4 y1.toInt8.toInt32 (y1 >>> ((8 : Int32) &&& 31)).toInt8.toInt32)), .val (.int (R2 x2.toInt8.toInt32 (x2 >>> ((8 : Int32) &&& 31)).toInt8.toInt32)), .val (.int (R4 x2.toInt8.toInt32 (x2 >>> ((8 : Int32) &&& 31)).toInt8.toInt32)), .val (.int (R2 y2.toInt8.toInt32 (y2 >>> ((8 : Int32) &&& 31)).toInt8.toInt32)), .unset, .unset, .unset, .unset, .unset, .unset] [(.int (R4 y2.toInt8.toInt32 (y2 >>> ((8 : Int32) &&& 31)).toInt8.toInt32))])
  refine wistore C X8 f0_46 #[.val (.int x1), .val (.int y1), .val (.int x2), .val (.int y2), .val (.int (R2 x1.toInt8.toInt32 (x1 >>> ((8 : Int32) &&& 31)).toInt8.toInt32)), .val (.int (R4 x1.toInt8.toInt32 (x1 >>> ((8 : Int32) &&& 31)).toInt8.toInt32)), .val (.int (R2 y1.toInt8.toInt32 (y1 >>> ((8 : Int32) &&& 31)).toInt8.toInt32)), .val (.int (R4 y1.toInt8.toInt32 (y1 >>> ((8 : Int32) &&& 31)).toInt8.toInt32)), .val (.int (R2 x2.toInt8.toInt32 (x2 >>> ((8 : Int32) &&& 31)).toInt8.toInt32)), .val (.int (R4 x2.toInt8.toInt32 (x2 >>> ((8 : Int32) &&& 31)).toInt8.toInt32)), .val (.int (R2 y2.toInt8.toInt32 (y2 >>> ((8 : Int32) &&& 31)).toInt8.toInt32)), .val (.int (R4 y2.toInt8.toInt32 (y2 >>> ((8 : Int32) &&& 31)).toInt8.toInt32)), .unset, .unset, .unset, .unset, .unset] rfl ?_
  refine wnew C X8 (tw_14 hw) (tw_15 hw) (tw_16 hw) eq8 f0_48 (by decide) (by decide) ?_
  intro T9 h9 b9 g9 X9 e9 E9 A9 D9
  have sz9 : h0.size ≤ b9 := Nat.le_trans (Nat.le_refl h0.size) (Nat.le_of_eq g9.symm)
  have F9_minX : Fld Z h9 b9 "com/example/cartomesh/cartomesh/model/Rect" "minX" "D" (.double (0 : UInt64)) := D9 (Or.inr (tw_29 hw)) (ty := .double) (by decide)
  have F9_minY : Fld Z h9 b9 "com/example/cartomesh/cartomesh/model/Rect" "minY" "D" (.double (0 : UInt64)) := D9 (Or.inr (tw_31 hw)) (ty := .double) (by decide)
  have F9_maxX : Fld Z h9 b9 "com/example/cartomesh/cartomesh/model/Rect" "maxX" "D" (.double (0 : UInt64)) := D9 (Or.inr (tw_33 hw)) (ty := .double) (by decide)
  have F9_maxY : Fld Z h9 b9 "com/example/cartomesh/cartomesh/model/Rect" "maxY" "D" (.double (0 : UInt64)) := D9 (Or.inr (tw_35 hw)) (ty := .double) (by decide)
  refine wdup C X9 f0_51 rfl ?_
  refine wiload C X9 f0_52 rfl ?_
  refine wi2d C X9 f0_54 ?_
  refine wiload C X9 f0_55 rfl ?_
  refine wi2d C X9 f0_57 ?_
  refine wiload C X9 f0_58 rfl ?_
  refine wi2d C X9 f0_60 ?_
  refine wiload C X9 f0_61 rfl ?_
  refine wi2d C X9 f0_63 ?_
  refine wspecial C X9 (y := (⟨"com/example/cartomesh/cartomesh/model/Rect", "<init>", "(DDDD)V"⟩ : MethodName)) rfl (tw_17 hw) (tw_18 hw) (tw_19 hw) (tw_16 hw) rfl (by decide) (rm5 l Z a0 hw [] b9 (FP.i2d (R2 x1.toInt8.toInt32 (x1 >>> ((8 : Int32) &&& 31)).toInt8.toInt32)) (FP.i2d (R2 y1.toInt8.toInt32 (y1 >>> ((8 : Int32) &&& 31)).toInt8.toInt32)) (FP.i2d (R4 x1.toInt8.toInt32 (x1 >>> ((8 : Int32) &&& 31)).toInt8.toInt32)) (FP.i2d (R4 y1.toInt8.toInt32 (y1 >>> ((8 : Int32) &&& 31)).toInt8.toInt32)) (0 : UInt64) (0 : UInt64) (0 : UInt64) (0 : UInt64) h9 n0 (Nat.le_trans Z0 E9.1) A9 F9_minX F9_minY F9_maxX F9_maxY (Nat.le_trans Z0 sz9)) e9 f0_64 (a := b9) (argsL := [(.double (FP.i2d (R2 x1.toInt8.toInt32 (x1 >>> ((8 : Int32) &&& 31)).toInt8.toInt32))), (.double (FP.i2d (R2 y1.toInt8.toInt32 (y1 >>> ((8 : Int32) &&& 31)).toInt8.toInt32))), (.double (FP.i2d (R4 x1.toInt8.toInt32 (x1 >>> ((8 : Int32) &&& 31)).toInt8.toInt32))), (.double (FP.i2d (R4 y1.toInt8.toInt32 (y1 >>> ((8 : Int32) &&& 31)).toInt8.toInt32)))]) (rest := [(.ref b9)]) rfl rfl (lenOf pd_3 rfl) rfl (W := 1) (Nat.le_of_eq rfl) (by decide) (by decide) (by decide) (by decide) ?_
  intro v10 T10 L10 X10 q10
  obtain ⟨rfl, Nq10, K10, G10_0, G10_1, G10_2, G10_3, G10_4⟩ := q10
  have N10 := Fr.app N8 Nq10
  show Go p e below s _ _ _ T10 (mkF m 67 #[.val (.int x1), .val (.int y1), .val (.int x2), .val (.int y2), .val (.int (R2 x1.toInt8.toInt32 (x1 >>> ((8 : Int32) &&& 31)).toInt8.toInt32)), .val (.int (R4 x1.toInt8.toInt32 (x1 >>> ((8 : Int32) &&& 31)).toInt8.toInt32)), .val (.int (R2 y1.toInt8.toInt32 (y1 >>> ((8 : Int32) &&& 31)).toInt8.toInt32)), .val (.int (R4 y1.toInt8.toInt32 (y1 >>> ((8 : Int32) &&& 31)).toInt8.toInt32)), .val (.int (R2 x2.toInt8.toInt32 (x2 >>> ((8 : Int32) &&& 31)).toInt8.toInt32)), .val (.int (R4 x2.toInt8.toInt32 (x2 >>> ((8 : Int32) &&& 31)).toInt8.toInt32)), .val (.int (R2 y2.toInt8.toInt32 (y2 >>> ((8 : Int32) &&& 31)).toInt8.toInt32)), .val (.int (R4 y2.toInt8.toInt32 (y2 >>> ((8 : Int32) &&& 31)).toInt8.toInt32)), .unset, .unset, .unset, .unset, .unset] [(.ref b9)])
  refine wastore C X10 f0_67 #[.val (.int x1), .val (.int y1), .val (.int x2), .val (.int y2), .val (.int (R2 x1.toInt8.toInt32 (x1 >>> ((8 : Int32) &&& 31)).toInt8.toInt32)), .val (.int (R4 x1.toInt8.toInt32 (x1 >>> ((8 : Int32) &&& 31)).toInt8.toInt32)), .val (.int (R2 y1.toInt8.toInt32 (y1 >>> ((8 : Int32) &&& 31)).toInt8.toInt32)), .val (.int (R4 y1.toInt8.toInt32 (y1 >>> ((8 : Int32) &&& 31)).toInt8.toInt32)), .val (.int (R2 x2.toInt8.toInt32 (x2 >>> ((8 : Int32) &&& 31)).toInt8.toInt32)), .val (.int (R4 x2.toInt8.toInt32 (x2 >>> ((8 : Int32) &&& 31)).toInt8.toInt32)), .val (.int (R2 y2.toInt8.toInt32 (y2 >>> ((8 : Int32) &&& 31)).toInt8.toInt32)), .val (.int (R4 y2.toInt8.toInt32 (y2 >>> ((8 : Int32) &&& 31)).toInt8.toInt32)), .val (.ref b9), .unset, .unset, .unset, .unset] rfl rfl ?_
  have q12 := (Nat.le_trans (Nat.le_trans (Nat.le_refl h0.size) E9.1) K10.1)
  refine wnew C X10 (tw_14 hw) (tw_15 hw) (tw_16 hw) rfl f0_69 (by decide) (by decide) ?_
  intro T11 h11 b11 g11 X11 e11 E11 A11 D11
  have sz11 : h0.size ≤ b11 := Nat.le_trans q12 (Nat.le_of_eq g11.symm)
  have F11_minX : Fld Z h11 b11 "com/example/cartomesh/cartomesh/model/Rect" "minX" "D" (.double (0 : UInt64)) := D11 (Or.inr (tw_29 hw)) (ty := .double) (by decide)
  have F11_minY : Fld Z h11 b11 "com/example/cartomesh/cartomesh/model/Rect" "minY" "D" (.double (0 : UInt64)) := D11 (Or.inr (tw_31 hw)) (ty := .double) (by decide)
  have F11_maxX : Fld Z h11 b11 "com/example/cartomesh/cartomesh/model/Rect" "maxX" "D" (.double (0 : UInt64)) := D11 (Or.inr (tw_33 hw)) (ty := .double) (by decide)
  have F11_maxY : Fld Z h11 b11 "com/example/cartomesh/cartomesh/model/Rect" "maxY" "D" (.double (0 : UInt64)) := D11 (Or.inr (tw_35 hw)) (ty := .double) (by decide)
  refine wdup C X11 f0_72 rfl ?_
  refine wiload C X11 f0_73 rfl ?_
  refine wi2d C X11 f0_75 ?_
  refine wiload C X11 f0_76 rfl ?_
  refine wi2d C X11 f0_78 ?_
  refine wiload C X11 f0_79 rfl ?_
  refine wi2d C X11 f0_81 ?_
  refine wiload C X11 f0_82 rfl ?_
  refine wi2d C X11 f0_84 ?_
  have q14 := (Nat.le_trans (Nat.le_trans (Nat.le_trans Z0 E9.1) K10.1) E11.1)
  refine wspecial C X11 (y := (⟨"com/example/cartomesh/cartomesh/model/Rect", "<init>", "(DDDD)V"⟩ : MethodName)) rfl (tw_17 hw) (tw_18 hw) (tw_19 hw) (tw_16 hw) rfl (by decide) (rm5 l Z a0 hw [] b11 (FP.i2d (R2 x2.toInt8.toInt32 (x2 >>> ((8 : Int32) &&& 31)).toInt8.toInt32)) (FP.i2d (R2 y2.toInt8.toInt32 (y2 >>> ((8 : Int32) &&& 31)).toInt8.toInt32)) (FP.i2d (R4 x2.toInt8.toInt32 (x2 >>> ((8 : Int32) &&& 31)).toInt8.toInt32)) (FP.i2d (R4 y2.toInt8.toInt32 (y2 >>> ((8 : Int32) &&& 31)).toInt8.toInt32)) (0 : UInt64) (0 : UInt64) (0 : UInt64) (0 : UInt64) h11 n0 q14 A11 F11_minX F11_minY F11_maxX F11_maxY (Nat.le_trans Z0 sz11)) e11 f0_85 (a := b11) (argsL := [(.double (FP.i2d (R2 x2.toInt8.toInt32 (x2 >>> ((8 : Int32) &&& 31)).toInt8.toInt32))), (.double (FP.i2d (R2 y2.toInt8.toInt32 (y2 >>> ((8 : Int32) &&& 31)).toInt8.toInt32))), (.double (FP.i2d (R4 x2.toInt8.toInt32 (x2 >>> ((8 : Int32) &&& 31)).toInt8.toInt32))), (.double (FP.i2d (R4 y2.toInt8.toInt32 (y2 >>> ((8 : Int32) &&& 31)).toInt8.toInt32)))]) (rest := [(.ref b11)]) rfl rfl (lenOf pd_3 rfl) rfl (W := 1) (Nat.le_of_eq rfl) (by decide) (by decide) (by decide) (by decide) ?_
  intro v13 T13 L13 X13 q13
  obtain ⟨rfl, Nq13, K13, G13_0, G13_1, G13_2, G13_3, G13_4⟩ := q13
  have N13 := Fr.app N10 Nq13
  show Go p e below s _ _ _ T13 (mkF m 88 #[.val (.int x1), .val (.int y1), .val (.int x2), .val (.int y2), .val (.int (R2 x1.toInt8.toInt32 (x1 >>> ((8 : Int32) &&& 31)).toInt8.toInt32)), .val (.int (R4 x1.toInt8.toInt32 (x1 >>> ((8 : Int32) &&& 31)).toInt8.toInt32)), .val (.int (R2 y1.toInt8.toInt32 (y1 >>> ((8 : Int32) &&& 31)).toInt8.toInt32)), .val (.int (R4 y1.toInt8.toInt32 (y1 >>> ((8 : Int32) &&& 31)).toInt8.toInt32)), .val (.int (R2 x2.toInt8.toInt32 (x2 >>> ((8 : Int32) &&& 31)).toInt8.toInt32)), .val (.int (R4 x2.toInt8.toInt32 (x2 >>> ((8 : Int32) &&& 31)).toInt8.toInt32)), .val (.int (R2 y2.toInt8.toInt32 (y2 >>> ((8 : Int32) &&& 31)).toInt8.toInt32)), .val (.int (R4 y2.toInt8.toInt32 (y2 >>> ((8 : Int32) &&& 31)).toInt8.toInt32)), .val (.ref b9), .unset, .unset, .unset, .unset] [(.ref b11)])
  refine wastore C X13 f0_88 #[.val (.int x1), .val (.int y1), .val (.int x2), .val (.int y2), .val (.int (R2 x1.toInt8.toInt32 (x1 >>> ((8 : Int32) &&& 31)).toInt8.toInt32)), .val (.int (R4 x1.toInt8.toInt32 (x1 >>> ((8 : Int32) &&& 31)).toInt8.toInt32)), .val (.int (R2 y1.toInt8.toInt32 (y1 >>> ((8 : Int32) &&& 31)).toInt8.toInt32)), .val (.int (R4 y1.toInt8.toInt32 (y1 >>> ((8 : Int32) &&& 31)).toInt8.toInt32)), .val (.int (R2 x2.toInt8.toInt32 (x2 >>> ((8 : Int32) &&& 31)).toInt8.toInt32)), .val (.int (R4 x2.toInt8.toInt32 (x2 >>> ((8 : Int32) &&& 31)).toInt8.toInt32)), .val (.int (R2 y2.toInt8.toInt32 (y2 >>> ((8 : Int32) &&& 31)).toInt8.toInt32)), .val (.int (R4 y2.toInt8.toInt32 (y2 >>> ((8 : Int32) &&& 31)).toInt8.toInt32)), .val (.ref b9), .val (.ref b11), .unset, .unset, .unset] rfl rfl ?_
  refine wiload C X13 f0_90 rfl ?_
  refine wiload C X13 f0_92 rfl ?_
  refine wstatic C X13 (y := (⟨"java/lang/Math", "max", "(II)I"⟩ : MethodName)) (tw_11 hw) (tw_12 hw) (tw_6 hw) (tw_13 hw) (by decide) (rm4 l Z a0 hw [] (R2 x1.toInt8.toInt32 (x1 >>> ((8 : Int32) &&& 31)).toInt8.toInt32) (R2 x2.toInt8.toInt32 (x2 >>> ((8 : Int32) &&& 31)).toInt8.toInt32) T13.heap n0 (Nat.le_trans q14 K13.1)) rfl f0_94 (argsL := [(.int (R2 x1.toInt8.toInt32 (x1 >>> ((8 : Int32) &&& 31)).toInt8.toInt32)), (.int (R2 x2.toInt8.toInt32 (x2 >>> ((8 : Int32) &&& 31)).toInt8.toInt32))]) (rest := []) rfl rfl (lenOf pd_1 rfl) rfl (W := 0) (Nat.le_of_eq rfl) (by decide) (by decide) (by decide) (by decide) ?_
  intro v15 T15 L15 X15 q15
  obtain ⟨rfl, Nq15, eq15⟩ := q15
  have N15 := Fr.app N13 Nq15
  show Go p e below s _ _ _ T15 (mkF m 97 #[.val (.int x1), .val (.int y1), .val (.int x2), .val (.int y2), .val (.int (R2 x1.toInt8.toInt32 (x1 >>> ((8 : Int32) &&& 31)).toInt8.toInt32)), .val (.int (R4 x1.toInt8.toInt32 (x1 >>> ((8 : Int32) &&& 31)).toInt8.toInt32)), .val (.int (R2 y1.toInt8.toInt32 (y1 >>> ((8 : Int32) &&& 31)).toInt8.toInt32)), .val (.int (R4 y1.toInt8.toInt32 (y1 >>> ((8 : Int32) &&& 31)).toInt8.toInt32)), .val (.int (R2 x2.toInt8.toInt32 (x2 >>> ((8 : Int32) &&& 31)).toInt8.toInt32)), .val (.int (R4 x2.toInt8.toInt32 (x2 >>> ((8 : Int32) &&& 31)).toInt8.toInt32)), .val (.int (R2 y2.toInt8.toInt32 (y2 >>> ((8 : Int32) &&& 31)).toInt8.toInt32)), .val (.int (R4 y2.toInt8.toInt32 (y2 >>> ((8 : Int32) &&& 31)).toInt8.toInt32)), .val (.ref b9), .val (.ref b11), .unset, .unset, .unset] [(.int (R4 (R2 x1.toInt8.toInt32 (x1 >>> ((8 : Int32) &&& 31)).toInt8.toInt32) (R2 x2.toInt8.toInt32 (x2 >>> ((8 : Int32) &&& 31)).toInt8.toInt32)))])
  refine wiload C X15 f0_97 rfl ?_
  refine wiload C X15 f0_99 rfl ?_
  refine wstatic C X15 (y := (⟨"java/lang/Math", "min", "(II)I"⟩ : MethodName)) (tw_4 hw) (tw_5 hw) (tw_6 hw) (tw_7 hw) (by decide) (rm2 l Z a0 hw [] (R4 x1.toInt8.toInt32 (x1 >>> ((8 : Int32) &&& 31)).toInt8.toInt32) (R4 x2.toInt8.toInt32 (x2 >>> ((8 : Int32) &&& 31)).toInt8.toInt32) T13.heap n0 (Nat.le_trans q14 K13.1)) eq15 f0_101 (argsL := [(.int (R4 x1.toInt8.toInt32 (x1 >>> ((8 : Int32) &&& 31)).toInt8.toInt32)), (.int (R4 x2.toInt8.toInt32 (x2 >>> ((8 : Int32) &&& 31)).toInt8.toInt32))]) (rest := [(.int (R4 (R2 x1.toInt8.toInt32 (x1 >>> ((8 : Int32) &&& 31)).toInt8.toInt32) (R2 x2.toInt8.toInt32 (x2 >>> ((8 : Int32) &&& 31)).toInt8.toInt32)))]) rfl rfl (lenOf pd_1 rfl) rfl (W := 1) (Nat.le_of_eq rfl) (by decide) (by decide) (by decide) (by decide) ?_
  intro v16 T16 L16 X16 q16
  obtain ⟨rfl, Nq16, eq16⟩ := q16
  have N16 := Fr.app N15 Nq16
  show Go p e below s _ _ _ T16 (mkF m 104 #[.val (.int x1), .val (.int y1), .val (.int x2), .val (.int y2), .val (.int (R2 x1.toInt8.toInt32 (x1 >>> ((8 : Int32) &&& 31)).toInt8.toInt32)), .val (.int (R4 x1.toInt8.toInt32 (x1 >>> ((8 : Int32) &&& 31)).toInt8.toInt32)), .val (.int (R2 y1.toInt8.toInt32 (y1 >>> ((8 : Int32) &&& 31)).toInt8.toInt32)), .val (.int (R4 y1.toInt8.toInt32 (y1 >>> ((8 : Int32) &&& 31)).toInt8.toInt32)), .val (.int (R2 x2.toInt8.toInt32 (x2 >>> ((8 : Int32) &&& 31)).toInt8.toInt32)), .val (.int (R4 x2.toInt8.toInt32 (x2 >>> ((8 : Int32) &&& 31)).toInt8.toInt32)), .val (.int (R2 y2.toInt8.toInt32 (y2 >>> ((8 : Int32) &&& 31)).toInt8.toInt32)), .val (.int (R4 y2.toInt8.toInt32 (y2 >>> ((8 : Int32) &&& 31)).toInt8.toInt32)), .val (.ref b9), .val (.ref b11), .unset, .unset, .unset] [(.int (R2 (R4 x1.toInt8.toInt32 (x1 >>> ((8 : Int32) &&& 31)).toInt8.toInt32) (R4 x2.toInt8.toInt32 (x2 >>> ((8 : Int32) &&& 31)).toInt8.toInt32))), (.int (R4 (R2 x1.toInt8.toInt32 (x1 >>> ((8 : Int32) &&& 31)).toInt8.toInt32) (R2 x2.toInt8.toInt32 (x2 >>> ((8 : Int32) &&& 31)).toInt8.toInt32)))])
  refine wicmp_gt C X16 f0_104 (fun hc104 => ?_) (fun hc104 => ?_)
  · refine wiconst C X16 f0_111 (0 : Int32) rfl ?_
    refine wistore C X16 f0_112 #[.val (.int x1), .val (.int y1), .val (.int x2), .val (.int y2), .val (.int (R2 x1.toInt8.toInt32 (x1 >>> ((8 : Int32) &&& 31)).toInt8.toInt32)), .val (.int (R4 x1.toInt8.toInt32 (x1 >>> ((8 : Int32) &&& 31)).toInt8.toInt32)), .val (.int (R2 y1.toInt8.toInt32 (y1 >>> ((8 : Int32) &&& 31)).toInt8.toInt32)), .val (.int (R4 y1.toInt8.toInt32 (y1 >>> ((8 : Int32) &&& 31)).toInt8.toInt32)), .val (.int (R2 x2.toInt8.toInt32 (x2 >>> ((8 : Int32) &&& 31)).toInt8.toInt32)), .val (.int (R4 x2.toInt8.toInt32 (x2 >>> ((8 : Int32) &&& 31)).toInt8.toInt32)), .val (.int (R2 y2.toInt8.toInt32 (y2 >>> ((8 : Int32) &&& 31)).toInt8.toInt32)), .val (.int (R4 y2.toInt8.toInt32 (y2 >>> ((8 : Int32) &&& 31)).toInt8.toInt32)), .val (.ref b9), .val (.ref b11), .val (.int (0 : Int32)), .unset, .unset] rfl ?_
    refine wiload C X16 f0_114 rfl ?_
    refine wiload C X16 f0_116 rfl ?_
    refine wstatic C X16 (y := (⟨"java/lang/Math", "max", "(II)I"⟩ : MethodName)) (tw_11 hw) (tw_12 hw) (tw_6 hw) (tw_13 hw) (by decide) (rm4 l Z a0 hw [] (R2 y1.toInt8.toInt32 (y1 >>> ((8 : Int32) &&& 31)).toInt8.toInt32) (R2 y2.toInt8.toInt32 (y2 >>> ((8 : Int32) &&& 31)).toInt8.toInt32) T13.heap n0 (Nat.le_trans q14 K13.1)) eq16 f0_118 (argsL := [(.int (R2 y1.toInt8.toInt32 (y1 >>> ((8 : Int32) &&& 31)).toInt8.toInt32)), (.int (R2 y2.toInt8.toInt32 (y2 >>> ((8 : Int32) &&& 31)).toInt8.toInt32))]) (rest := []) rfl rfl (lenOf pd_1 rfl) rfl (W := 0) (Nat.le_of_eq rfl) (by decide) (by decide) (by decide) (by decide) ?_
    intro v17 T17 L17 X17 q17
    obtain ⟨rfl, Nq17, eq17⟩ := q17
    have N17 := Fr.app N16 Nq17
    show Go p e below s _ _ _ T17 (mkF m 121 #[.val (.int x1), .val (.int y1), .val (.int x2), .val (.int y2), .val (.int (R2 x1.toInt8.toInt32 (x1 >>> ((8 : Int32) &&& 31)).toInt8.toInt32)), .val (.int (R4 x1.toInt8.toInt32 (x1 >>> ((8 : Int32) &&& 31)).toInt8.toInt32)), .val (.int (R2 y1.toInt8.toInt32 (y1 >>> ((8 : Int32) &&& 31)).toInt8.toInt32)), .val (.int (R4 y1.toInt8.toInt32 (y1 >>> ((8 : Int32) &&& 31)).toInt8.toInt32)), .val (.int (R2 x2.toInt8.toInt32 (x2 >>> ((8 : Int32) &&& 31)).toInt8.toInt32)), .val (.int (R4 x2.toInt8.toInt32 (x2 >>> ((8 : Int32) &&& 31)).toInt8.toInt32)), .val (.int (R2 y2.toInt8.toInt32 (y2 >>> ((8 : Int32) &&& 31)).toInt8.toInt32)), .val (.int (R4 y2.toInt8.toInt32 (y2 >>> ((8 : Int32) &&& 31)).toInt8.toInt32)), .val (.ref b9), .val (.ref b11), .val (.int (0 : Int32)), .unset, .unset] [(.int (R4 (R2 y1.toInt8.toInt32 (y1 >>> ((8 : Int32) &&& 31)).toInt8.toInt32) (R2 y2.toInt8.toInt32 (y2 >>> ((8 : Int32) &&& 31)).toInt8.toInt32)))])
    refine wiload C X17 f0_121 rfl ?_
    refine wiload C X17 f0_123 rfl ?_
    refine wstatic C X17 (y := (⟨"java/lang/Math", "min", "(II)I"⟩ : MethodName)) (tw_4 hw) (tw_5 hw) (tw_6 hw) (tw_7 hw) (by decide) (rm2 l Z a0 hw [] (R4 y1.toInt8.toInt32 (y1 >>> ((8 : Int32) &&& 31)).toInt8.toInt32) (R4 y2.toInt8.toInt32 (y2 >>> ((8 : Int32) &&& 31)).toInt8.toInt32) T13.heap n0 (Nat.le_trans q14 K13.1)) eq17 f0_125 (argsL := [(.int (R4 y1.toInt8.toInt32 (y1 >>> ((8 : Int32) &&& 31)).toInt8.toInt32)), (.int (R4 y2.toInt8.toInt32 (y2 >>> ((8 : Int32) &&& 31)).toInt8.toInt32))]) (rest := [(.int (R4 (R2 y1.toInt8.toInt32 (y1 >>> ((8 : Int32) &&& 31)).toInt8.toInt32) (R2 y2.toInt8.toInt32 (y2 >>> ((8 : Int32) &&& 31)).toInt8.toInt32)))]) rfl rfl (lenOf pd_1 rfl) rfl (W := 1) (Nat.le_of_eq rfl) (by decide) (by decide) (by decide) (by decide) ?_
    intro v18 T18 L18 X18 q18
    obtain ⟨rfl, Nq18, eq18⟩ := q18
    have N18 := Fr.app N17 Nq18
    show Go p e below s _ _ _ T18 (mkF m 128 #[.val (.int x1), .val (.int y1), .val (.int x2), .val (.int y2), .val (.int (R2 x1.toInt8.toInt32 (x1 >>> ((8 : Int32) &&& 31)).toInt8.toInt32)), .val (.int (R4 x1.toInt8.toInt32 (x1 >>> ((8 : Int32) &&& 31)).toInt8.toInt32)), .val (.int (R2 y1.toInt8.toInt32 (y1 >>> ((8 : Int32) &&& 31)).toInt8.toInt32)), .val (.int (R4 y1.toInt8.toInt32 (y1 >>> ((8 : Int32) &&& 31)).toInt8.toInt32)), .val (.int (R2 x2.toInt8.toInt32 (x2 >>> ((8 : Int32) &&& 31)).toInt8.toInt32)), .val (.int (R4 x2.toInt8.toInt32 (x2 >>> ((8 : Int32) &&& 31)).toInt8.toInt32)), .val (.int (R2 y2.toInt8.toInt32 (y2 >>> ((8 : Int32) &&& 31)).toInt8.toInt32)), .val (.int (R4 y2.toInt8.toInt32 (y2 >>> ((8 : Int32) &&& 31)).toInt8.toInt32)), .val (.ref b9), .val (.ref b11), .val (.int (0 : Int32)), .unset, .unset] [(.int (R2 (R4 y1.toInt8.toInt32 (y1 >>> ((8 : Int32) &&& 31)).toInt8.toInt32) (R4 y2.toInt8.toInt32 (y2 >>> ((8 : Int32) &&& 31)).toInt8.toInt32))), (.int (R4 (R2 y1.toInt8.toInt32 (y1 >>> ((8 : Int32) &&& 31)).toInt8.toInt32) (R2 y2.toInt8.toInt32 (y2 >>> ((8 : Int32) &&& 31)).toInt8.toInt32)))])
    refine wicmp_gt C X18 f0_128 (fun hc128 => ?_) (fun hc128 => ?_)
    · refine wiconst C X18 f0_135 (0 : Int32) rfl ?_
      refine wistore C X18 f0_136 #[.val (.int x1), .val (.int y1), .val (.int x2), .val (.int y2), .val (.int (R2 x1.toInt8.toInt32 (x1 >>> ((8 : Int32) &&& 31)).toInt8.toInt32)), .val (.int (R4 x1.toInt8.toInt32 (x1 >>> ((8 : Int32) &&& 31)).toInt8.toInt32)), .val (.int (R2 y1.toInt8.toInt32 (y1 >>> ((8 : Int32) &&& 31)).toInt8.toInt32)), .val (.int (R4 y1.toInt8.toInt32 (y1 >>> ((8 : Int32) &&& 31)).toInt8.toInt32)), .val (.int (R2 x2.toInt8.toInt32 (x2 >>> ((8 : Int32) &&& 31)).toInt8.toInt32)), .val (.int (R4 x2.toInt8.toInt32 (x2 >>> ((8 : Int32) &&& 31)).toInt8.toInt32)), .val (.int (R2 y2.toInt8.toInt32 (y2 >>> ((8 : Int32) &&& 31)).toInt8.toInt32)), .val (.int (R4 y2.toInt8.toInt32 (y2 >>> ((8 : Int32) &&& 31)).toInt8.toInt32)), .val (.ref b9), .val (.ref b11), .val (.int (0 : Int32)), .val (.int (0 : Int32)), .unset] rfl ?_
      refine wiload C X18 f0_138 rfl ?_
      refine wif_eq C X18 f0_140 ?_ (fun q => absurd (by decide : ((0 : Int32) = (0 : Int32))) q)
      intro _
      refine wiconst C X18 f0_152 (0 : Int32) rfl ?_
      refine wistore C X18 f0_153 #[.val (.int x1), .val (.int y1), .val (.int x2), .val (.int y2), .val (.int (R2 x1.toInt8.toInt32 (x1 >>> ((8 : Int32) &&& 31)).toInt8.toInt32)), .val (.int (R4 x1.toInt8.toInt32 (x1 >>> ((8 : Int32) &&& 31)).toInt8.toInt32)), .val (.int (R2 y1.toInt8.toInt32 (y1 >>> ((8 : Int32) &&& 31)).toInt8.toInt32)), .val (.int (R4 y1.toInt8.toInt32 (y1 >>> ((8 : Int32) &&& 31)).toInt8.toInt32)), .val (.int (R2 x2.toInt8.toInt32 (x2 >>> ((8 : Int32) &&& 31)).toInt8.toInt32)), .val (.int (R4 x2.toInt8.toInt32 (x2 >>> ((8 : Int32) &&& 31)).toInt8.toInt32)), .val (.int (R2 y2.toInt8.toInt32 (y2 >>> ((8 : Int32) &&& 31)).toInt8.toInt32)), .val (.int (R4 y2.toInt8.toInt32 (y2 >>> ((8 : Int32) &&& 31)).toInt8.toInt32)), .val (.ref b9), .val (.ref b11), .val (.int (0 : Int32)), .val (.int (0 : Int32)), .val (.int (0 : Int32))] rfl ?_
      refine waload C X18 f0_155 rfl rfl ?_
      refine waload C X18 f0_157 rfl rfl ?_
      have ne20 : b9 ≠ b11 := (Nat.ne_of_lt (Nat.lt_of_lt_of_le (Nat.lt_of_lt_of_le A9.lt K10.1) (Nat.le_of_eq g11.symm)))
      refine wvirtual C X18 (y := (⟨"com/example/cartomesh/cartomesh/model/Rect", "intersects", "(Lcom/example/cartomesh/cartomesh/model/Rect;)Z"⟩ : MethodName)) (z := (⟨"com/example/cartomesh/cartomesh/model/Rect", "intersects", "(Lcom/example/cartomesh/cartomesh/model/Rect;)Z"⟩ : MethodName)) (tw_36 hw) (tw_37 hw) (notFace_of_selects (args := #[]) (mvT C.2.1 (tw_39 hw))) (tw_39 hw) (tw_38 hw) (tw_40 hw) (tw_16 hw) (by decide) (rm8 l Z a0 hw [] b9 b11 (FP.i2d (R2 x1.toInt8.toInt32 (x1 >>> ((8 : Int32) &&& 31)).toInt8.toInt32)) (FP.i2d (R2 y1.toInt8.toInt32 (y1 >>> ((8 : Int32) &&& 31)).toInt8.toInt32)) (FP.i2d (R4 x1.toInt8.toInt32 (x1 >>> ((8 : Int32) &&& 31)).toInt8.toInt32)) (FP.i2d (R4 y1.toInt8.toInt32 (y1 >>> ((8 : Int32) &&& 31)).toInt8.toInt32)) (FP.i2d (R2 x2.toInt8.toInt32 (x2 >>> ((8 : Int32) &&& 31)).toInt8.toInt32)) (FP.i2d (R2 y2.toInt8.toInt32 (y2 >>> ((8 : Int32) &&& 31)).toInt8.toInt32)) (FP.i2d (R4 x2.toInt8.toInt32 (x2 >>> ((8 : Int32) &&& 31)).toInt8.toInt32)) (FP.i2d (R4 y2.toInt8.toInt32 (y2 >>> ((8 : Int32) &&& 31)).toInt8.toInt32)) T13.heap n0 (Nat.le_trans q14 K13.1) ((G10_1.ext E11).keep K13 (ninS ne20 nin0)) ((G10_2.ext E11).keep K13 (ninS ne20 nin0)) ((G10_3.ext E11).keep K13 (ninS ne20 nin0)) ((G10_4.ext E11).keep K13 (ninS ne20 nin0)) G13_1 G13_2 G13_3 G13_4) eq18 (a := b9) ((G10_0.ext E11).keep K13) f0_159 (argsL := [(.ref b11)]) (rest := []) rfl rfl (lenOf pd_4 rfl) rfl (W := 0) (Nat.le_of_eq rfl) (by decide) (by decide) (by decide) (by decide) ?_
      intro v19 T19 L19 X19 q19
      obtain ⟨rfl, Nq19, eq19⟩ := q19
      have N19 := Fr.app N18 Nq19
      show Go p e below s _ _ _ T19 (mkF m 162 #[.val (.int x1), .val (.int y1), .val (.int x2), .val (.int y2), .val (.int (R2 x1.toInt8.toInt32 (x1 >>> ((8 : Int32) &&& 31)).toInt8.toInt32)), .val (.int (R4 x1.toInt8.toInt32 (x1 >>> ((8 : Int32) &&& 31)).toInt8.toInt32)), .val (.int (R2 y1.toInt8.toInt32 (y1 >>> ((8 : Int32) &&& 31)).toInt8.toInt32)), .val (.int (R4 y1.toInt8.toInt32 (y1 >>> ((8 : Int32) &&& 31)).toInt8.toInt32)), .val (.int (R2 x2.toInt8.toInt32 (x2 >>> ((8 : Int32) &&& 31)).toInt8.toInt32)), .val (.int (R4 x2.toInt8.toInt32 (x2 >>> ((8 : Int32) &&& 31)).toInt8.toInt32)), .val (.int (R2 y2.toInt8.toInt32 (y2 >>> ((8 : Int32) &&& 31)).toInt8.toInt32)), .val (.int (R4 y2.toInt8.toInt32 (y2 >>> ((8 : Int32) &&& 31)).toInt8.toInt32)), .val (.ref b9), .val (.ref b11), .val (.int (0 : Int32)), .val (.int (0 : Int32)), .val (.int (0 : Int32))] [(.int (R8 (FP.i2d (R2 x1.toInt8.toInt32 (x1 >>> ((8 : Int32) &&& 31)).toInt8.toInt32)) (FP.i2d (R2 y1.toInt8.toInt32 (y1 >>> ((8 : Int32) &&& 31)).toInt8.toInt32)) (FP.i2d (R4 x1.toInt8.toInt32 (x1 >>> ((8 : Int32) &&& 31)).toInt8.toInt32)) (FP.i2d (R4 y1.toInt8.toInt32 (y1 >>> ((8 : Int32) &&& 31)).toInt8.toInt32)) (FP.i2d (R2 x2.toInt8.toInt32 (x2 >>> ((8 : Int32) &&& 31)).toInt8.toInt32)) (FP.i2d (R2 y2.toInt8.toInt32 (y2 >>> ((8 : Int32) &&& 31)).toInt8.toInt32)) (FP.i2d (R4 x2.toInt8.toInt32 (x2 >>> ((8 : Int32) &&& 31)).toInt8.toInt32)) (FP.i2d (R4 y2.toInt8.toInt32 (y2 >>> ((8 : Int32) &&& 31)).toInt8.toInt32))))])
      refine wiload C X19 f0_162 rfl ?_
      refine wicmp_ne C X19 f0_164 ?_ (fun q => absurd (by rw [own_int (own_le _ _) (own_le _ _) (own_le _ _) (own_le _ _)]; simp only [Int32.lt_iff_toInt_lt] at hc104 hc128; first | exact if_pos (by omega) | exact if_neg (by omega)) q)
      intro _
      refine waload C X19 f0_167 rfl rfl ?_
      refine waload C X19 f0_169 rfl rfl ?_
      refine wvirtual C X19 (y := (⟨"com/example/cartomesh/cartomesh/model/Rect", "intersects", "(Lcom/example/cartomesh/cartomesh/model/Rect;)Z"⟩ : MethodName)) (z := (⟨"com/example/cartomesh/cartomesh/model/Rect", "intersects", "(Lcom/example/cartomesh/cartomesh/model/Rect;)Z"⟩ : MethodName)) (tw_36 hw) (tw_37 hw) (notFace_of_selects (args := #[]) (mvT C.2.1 (tw_39 hw))) (tw_39 hw) (tw_38 hw) (tw_40 hw) (tw_16 hw) (by decide) (rm8 l Z a0 hw [] b11 b9 (FP.i2d (R2 x2.toInt8.toInt32 (x2 >>> ((8 : Int32) &&& 31)).toInt8.toInt32)) (FP.i2d (R2 y2.toInt8.toInt32 (y2 >>> ((8 : Int32) &&& 31)).toInt8.toInt32)) (FP.i2d (R4 x2.toInt8.toInt32 (x2 >>> ((8 : Int32) &&& 31)).toInt8.toInt32)) (FP.i2d (R4 y2.toInt8.toInt32 (y2 >>> ((8 : Int32) &&& 31)).toInt8.toInt32)) (FP.i2d (R2 x1.toInt8.toInt32 (x1 >>> ((8 : Int32) &&& 31)).toInt8.toInt32)) (FP.i2d (R2 y1.toInt8.toInt32 (y1 >>> ((8 : Int32) &&& 31)).toInt8.toInt32)) (FP.i2d (R4 x1.toInt8.toInt32 (x1 >>> ((8 : Int32) &&& 31)).toInt8.toInt32)) (FP.i2d (R4 y1.toInt8.toInt32 (y1 >>> ((8 : Int32) &&& 31)).toInt8.toInt32)) T13.heap n0 (Nat.le_trans q14 K13.1) G13_1 G13_2 G13_3 G13_4 ((G10_1.ext E11).keep K13 (ninS ne20 nin0)) ((G10_2.ext E11).keep K13 (ninS ne20 nin0)) ((G10_3.ext E11).keep K13 (ninS ne20 nin0)) ((G10_4.ext E11).keep K13 (ninS ne20 nin0))) eq19 (a := b11) G13_0 f0_171 (argsL := [(.ref b9)]) (rest := []) rfl rfl (lenOf pd_4 rfl) rfl (W := 0) (Nat.le_of_eq rfl) (by decide) (by decide) (by decide) (by decide) ?_
      intro v21 T21 L21 X21 q21
      obtain ⟨rfl, Nq21, eq21⟩ := q21
      have N21 := Fr.app N19 Nq21
      show Go p e below s _ _ _ T21 (mkF m 174 #[.val (.int x1), .val (.int y1), .val (.int x2), .val (.int y2), .val (.int (R2 x1.toInt8.toInt32 (x1 >>> ((8 : Int32) &&& 31)).toInt8.toInt32)), .val (.int (R4 x1.toInt8.toInt32 (x1 >>> ((8 : Int32) &&& 31)).toInt8.toInt32)), .val (.int (R2 y1.toInt8.toInt32 (y1 >>> ((8 : Int32) &&& 31)).toInt8.toInt32)), .val (.int (R4 y1.toInt8.toInt32 (y1 >>> ((8 : Int32) &&& 31)).toInt8.toInt32)), .val (.int (R2 x2.toInt8.toInt32 (x2 >>> ((8 : Int32) &&& 31)).toInt8.toInt32)), .val (.int (R4 x2.toInt8.toInt32 (x2 >>> ((8 : Int32) &&& 31)).toInt8.toInt32)), .val (.int (R2 y2.toInt8.toInt32 (y2 >>> ((8 : Int32) &&& 31)).toInt8.toInt32)), .val (.int (R4 y2.toInt8.toInt32 (y2 >>> ((8 : Int32) &&& 31)).toInt8.toInt32)), .val (.ref b9), .val (.ref b11), .val (.int (0 : Int32)), .val (.int (0 : Int32)), .val (.int (0 : Int32))] [(.int (R8 (FP.i2d (R2 x2.toInt8.toInt32 (x2 >>> ((8 : Int32) &&& 31)).toInt8.toInt32)) (FP.i2d (R2 y2.toInt8.toInt32 (y2 >>> ((8 : Int32) &&& 31)).toInt8.toInt32)) (FP.i2d (R4 x2.toInt8.toInt32 (x2 >>> ((8 : Int32) &&& 31)).toInt8.toInt32)) (FP.i2d (R4 y2.toInt8.toInt32 (y2 >>> ((8 : Int32) &&& 31)).toInt8.toInt32)) (FP.i2d (R2 x1.toInt8.toInt32 (x1 >>> ((8 : Int32) &&& 31)).toInt8.toInt32)) (FP.i2d (R2 y1.toInt8.toInt32 (y1 >>> ((8 : Int32) &&& 31)).toInt8.toInt32)) (FP.i2d (R4 x1.toInt8.toInt32 (x1 >>> ((8 : Int32) &&& 31)).toInt8.toInt32)) (FP.i2d (R4 y1.toInt8.toInt32 (y1 >>> ((8 : Int32) &&& 31)).toInt8.toInt32))))])
      refine wiload C X21 f0_174 rfl ?_
      refine wicmp_ne C X21 f0_176 ?_ (fun q => absurd (by rw [own_int' (own_le _ _) (own_le _ _) (own_le _ _) (own_le _ _)]; simp only [Int32.lt_iff_toInt_lt] at hc104 hc128; first | exact if_pos (by omega) | exact if_neg (by omega)) q)
      intro _
      refine wiconst C X21 f0_179 (1 : Int32) rfl ?_
      refine wgoto C X21 f0_180 ?_
      refine wiretN C X21 (t := .boolean) (by simp) f0_184 rfl (1 : Int32) (by decide) (by decide) (by decide) ?_
      rw [eq21]
      exact ⟨rfl, N21⟩
    · refine wiconst C X18 f0_131 (1 : Int32) rfl ?_
      refine wgoto C X18 f0_132 ?_
      refine wistore C X18 f0_136 #[.val (.int x1), .val (.int y1), .val (.int x2), .val (.int y2), .val (.int (R2 x1.toInt8.toInt32 (x1 >>> ((8 : Int32) &&& 31)).toInt8.toInt32)), .val (.int (R4 x1.toInt8.toInt32 (x1 >>> ((8 : Int32) &&& 31)).toInt8.toInt32)), .val (.int (R2 y1.toInt8.toInt32 (y1 >>> ((8 : Int32) &&& 31)).toInt8.toInt32)), .val (.int (R4 y1.toInt8.toInt32 (y1 >>> ((8 : Int32) &&& 31)).toInt8.toInt32)), .val (.int (R2 x2.toInt8.toInt32 (x2 >>> ((8 : Int32) &&& 31)).toInt8.toInt32)), .val (.int (R4 x2.toInt8.toInt32 (x2 >>> ((8 : Int32) &&& 31)).toInt8.toInt32)), .val (.int (R2 y2.toInt8.toInt32 (y2 >>> ((8 : Int32) &&& 31)).toInt8.toInt32)), .val (.int (R4 y2.toInt8.toInt32 (y2 >>> ((8 : Int32) &&& 31)).toInt8.toInt32)), .val (.ref b9), .val (.ref b11), .val (.int (0 : Int32)), .val (.int (1 : Int32)), .unset] rfl ?_
      refine wiload C X18 f0_138 rfl ?_
      refine wif_eq C X18 f0_140 ?_ (fun q => absurd (by decide : ((0 : Int32) = (0 : Int32))) q)
      intro _
      refine wiconst C X18 f0_152 (0 : Int32) rfl ?_
      refine wistore C X18 f0_153 #[.val (.int x1), .val (.int y1), .val (.int x2), .val (.int y2), .val (.int (R2 x1.toInt8.toInt32 (x1 >>> ((8 : Int32) &&& 31)).toInt8.toInt32)), .val (.int (R4 x1.toInt8.toInt32 (x1 >>> ((8 : Int32) &&& 31)).toInt8.toInt32)), .val (.int (R2 y1.toInt8.toInt32 (y1 >>> ((8 : Int32) &&& 31)).toInt8.toInt32)), .val (.int (R4 y1.toInt8.toInt32 (y1 >>> ((8 : Int32) &&& 31)).toInt8.toInt32)), .val (.int (R2 x2.toInt8.toInt32 (x2 >>> ((8 : Int32) &&& 31)).toInt8.toInt32)), .val (.int (R4 x2.toInt8.toInt32 (x2 >>> ((8 : Int32) &&& 31)).toInt8.toInt32)), .val (.int (R2 y2.toInt8.toInt32 (y2 >>> ((8 : Int32) &&& 31)).toInt8.toInt32)), .val (.int (R4 y2.toInt8.toInt32 (y2 >>> ((8 : Int32) &&& 31)).toInt8.toInt32)), .val (.ref b9), .val (.ref b11), .val (.int (0 : Int32)), .val (.int (1 : Int32)), .val (.int (0 : Int32))] rfl ?_
      refine waload C X18 f0_155 rfl rfl ?_
      refine waload C X18 f0_157 rfl rfl ?_
      have ne23 : b9 ≠ b11 := (Nat.ne_of_lt (Nat.lt_of_lt_of_le (Nat.lt_of_lt_of_le A9.lt K10.1) (Nat.le_of_eq g11.symm)))
      refine wvirtual C X18 (y := (⟨"com/example/cartomesh/cartomesh/model/Rect", "intersects", "(Lcom/example/cartomesh/cartomesh/model/Rect;)Z"⟩ : MethodName)) (z := (⟨"com/example/cartomesh/cartomesh/model/Rect", "intersects", "(Lcom/example/cartomesh/cartomesh/model/Rect;)Z"⟩ : MethodName)) (tw_36 hw) (tw_37 hw) (notFace_of_selects (args := #[]) (mvT C.2.1 (tw_39 hw))) (tw_39 hw) (tw_38 hw) (tw_40 hw) (tw_16 hw) (by decide) (rm8 l Z a0 hw [] b9 b11 (FP.i2d (R2 x1.toInt8.toInt32 (x1 >>> ((8 : Int32) &&& 31)).toInt8.toInt32)) (FP.i2d (R2 y1.toInt8.toInt32 (y1 >>> ((8 : Int32) &&& 31)).toInt8.toInt32)) (FP.i2d (R4 x1.toInt8.toInt32 (x1 >>> ((8 : Int32) &&& 31)).toInt8.toInt32)) (FP.i2d (R4 y1.toInt8.toInt32 (y1 >>> ((8 : Int32) &&& 31)).toInt8.toInt32)) (FP.i2d (R2 x2.toInt8.toInt32 (x2 >>> ((8 : Int32) &&& 31)).toInt8.toInt32)) (FP.i2d (R2 y2.toInt8.toInt32 (y2 >>> ((8 : Int32) &&& 31)).toInt8.toInt32)) (FP.i2d (R4 x2.toInt8.toInt32 (x2 >>> ((8 : Int32) &&& 31)).toInt8.toInt32)) (FP.i2d (R4 y2.toInt8.toInt32 (y2 >>> ((8 : Int32) &&& 31)).toInt8.toInt32)) T13.heap n0 (Nat.le_trans q14 K13.1) ((G10_1.ext E11).keep K13 (ninS ne23 nin0)) ((G10_2.ext E11).keep K13 (ninS ne23 nin0)) ((G10_3.ext E11).keep K13 (ninS ne23 nin0)) ((G10_4.ext E11).keep K13 (ninS ne23 nin0)) G13_1 G13_2 G13_3 G13_4) eq18 (a := b9) ((G10_0.ext E11).keep K13) f0_159 (argsL := [(.ref b11)]) (rest := []) rfl rfl (lenOf pd_4 rfl) rfl (W := 0) (Nat.le_of_eq rfl) (by decide) (by decide) (by decide) (by decide) ?_
      intro v22 T22 L22 X22 q22
      obtain ⟨rfl, Nq22, eq22⟩ := q22
      have N22 := Fr.app N18 Nq22
      show Go p e below s _ _ _ T22 (mkF m 162 #[.val (.int x1), .val (.int y1), .val (.int x2), .val (.int y2), .val (.int (R2 x1.toInt8.toInt32 (x1 >>> ((8 : Int32) &&& 31)).toInt8.toInt32)), .val (.int (R4 x1.toInt8.toInt32 (x1 >>> ((8 : Int32) &&& 31)).toInt8.toInt32)), .val (.int (R2 y1.toInt8.toInt32 (y1 >>> ((8 : Int32) &&& 31)).toInt8.toInt32)), .val (.int (R4 y1.toInt8.toInt32 (y1 >>> ((8 : Int32) &&& 31)).toInt8.toInt32)), .val (.int (R2 x2.toInt8.toInt32 (x2 >>> ((8 : Int32) &&& 31)).toInt8.toInt32)), .val (.int (R4 x2.toInt8.toInt32 (x2 >>> ((8 : Int32) &&& 31)).toInt8.toInt32)), .val (.int (R2 y2.toInt8.toInt32 (y2 >>> ((8 : Int32) &&& 31)).toInt8.toInt32)), .val (.int (R4 y2.toInt8.toInt32 (y2 >>> ((8 : Int32) &&& 31)).toInt8.toInt32)), .val (.ref b9), .val (.ref b11), .val (.int (0 : Int32)), .val (.int (1 : Int32)), .val (.int (0 : Int32))] [(.int (R8 (FP.i2d (R2 x1.toInt8.toInt32 (x1 >>> ((8 : Int32) &&& 31)).toInt8.toInt32)) (FP.i2d (R2 y1.toInt8.toInt32 (y1 >>> ((8 : Int32) &&& 31)).toInt8.toInt32)) (FP.i2d (R4 x1.toInt8.toInt32 (x1 >>> ((8 : Int32) &&& 31)).toInt8.toInt32)) (FP.i2d (R4 y1.toInt8.toInt32 (y1 >>> ((8 : Int32) &&& 31)).toInt8.toInt32)) (FP.i2d (R2 x2.toInt8.toInt32 (x2 >>> ((8 : Int32) &&& 31)).toInt8.toInt32)) (FP.i2d (R2 y2.toInt8.toInt32 (y2 >>> ((8 : Int32) &&& 31)).toInt8.toInt32)) (FP.i2d (R4 x2.toInt8.toInt32 (x2 >>> ((8 : Int32) &&& 31)).toInt8.toInt32)) (FP.i2d (R4 y2.toInt8.toInt32 (y2 >>> ((8 : Int32) &&& 31)).toInt8.toInt32))))])
      refine wiload C X22 f0_162 rfl ?_
      refine wicmp_ne C X22 f0_164 ?_ (fun q => absurd (by rw [own_int (own_le _ _) (own_le _ _) (own_le _ _) (own_le _ _)]; simp only [Int32.lt_iff_toInt_lt] at hc104 hc128; first | exact if_pos (by omega) | exact if_neg (by omega)) q)
      intro _
      refine waload C X22 f0_167 rfl rfl ?_
      refine waload C X22 f0_169 rfl rfl ?_
      refine wvirtual C X22 (y := (⟨"com/example/cartomesh/cartomesh/model/Rect", "intersects", "(Lcom/example/cartomesh/cartomesh/model/Rect;)Z"⟩ : MethodName)) (z := (⟨"com/example/cartomesh/cartomesh/model/Rect", "intersects", "(Lcom/example/cartomesh/cartomesh/model/Rect;)Z"⟩ : MethodName)) (tw_36 hw) (tw_37 hw) (notFace_of_selects (args := #[]) (mvT C.2.1 (tw_39 hw))) (tw_39 hw) (tw_38 hw) (tw_40 hw) (tw_16 hw) (by decide) (rm8 l Z a0 hw [] b11 b9 (FP.i2d (R2 x2.toInt8.toInt32 (x2 >>> ((8 : Int32) &&& 31)).toInt8.toInt32)) (FP.i2d (R2 y2.toInt8.toInt32 (y2 >>> ((8 : Int32) &&& 31)).toInt8.toInt32)) (FP.i2d (R4 x2.toInt8.toInt32 (x2 >>> ((8 : Int32) &&& 31)).toInt8.toInt32)) (FP.i2d (R4 y2.toInt8.toInt32 (y2 >>> ((8 : Int32) &&& 31)).toInt8.toInt32)) (FP.i2d (R2 x1.toInt8.toInt32 (x1 >>> ((8 : Int32) &&& 31)).toInt8.toInt32)) (FP.i2d (R2 y1.toInt8.toInt32 (y1 >>> ((8 : Int32) &&& 31)).toInt8.toInt32)) (FP.i2d (R4 x1.toInt8.toInt32 (x1 >>> ((8 : Int32) &&& 31)).toInt8.toInt32)) (FP.i2d (R4 y1.toInt8.toInt32 (y1 >>> ((8 : Int32) &&& 31)).toInt8.toInt32)) T13.heap n0 (Nat.le_trans q14 K13.1) G13_1 G13_2 G13_3 G13_4 ((G10_1.ext E11).keep K13 (ninS ne23 nin0)) ((G10_2.ext E11).keep K13 (ninS ne23 nin0)) ((G10_3.ext E11).keep K13 (ninS ne23 nin0)) ((G10_4.ext E11).keep K13 (ninS ne23 nin0))) eq22 (a := b11) G13_0 f0_171 (argsL := [(.ref b9)]) (rest := []) rfl rfl (lenOf pd_4 rfl) rfl (W := 0) (Nat.le_of_eq rfl) (by decide) (by decide) (by decide) (by decide) ?_
      intro v24 T24 L24 X24 q24
      obtain ⟨rfl, Nq24, eq24⟩ := q24
      have N24 := Fr.app N22 Nq24
      show Go p e below s _ _ _ T24 (mkF m 174 #[.val (.int x1), .val (.int y1), .val (.int x2), .val (.int y2), .val (.int (R2 x1.toInt8.toInt32 (x1 >>> ((8 : Int32) &&& 31)).toInt8.toInt32)), .val (.int (R4 x1.toInt8.toInt32 (x1 >>> ((8 : Int32) &&& 31)).toInt8.toInt32)), .val (.int (R2 y1.toInt8.toInt32 (y1 >>> ((8 : Int32) &&& 31)).toInt8.toInt32)), .val (.int (R4 y1.toInt8.toInt32 (y1 >>> ((8 : Int32) &&& 31)).toInt8.toInt32)), .val (.int (R2 x2.toInt8.toInt32 (x2 >>> ((8 : Int32) &&& 31)).toInt8.toInt32)), .val (.int (R4 x2.toInt8.toInt32 (x2 >>> ((8 : Int32) &&& 31)).toInt8.toInt32)), .val (.int (R2 y2.toInt8.toInt32 (y2 >>> ((8 : Int32) &&& 31)).toInt8.toInt32)), .val (.int (R4 y2.toInt8.toInt32 (y2 >>> ((8 : Int32) &&& 31)).toInt8.toInt32)), .val (.ref b9), .val (.ref b11), .val (.int (0 : Int32)), .val (.int (1 : Int32)), .val (.int (0 : Int32))] [(.int (R8 (FP.i2d (R2 x2.toInt8.toInt32 (x2 >>> ((8 : Int32) &&& 31)).toInt8.toInt32)) (FP.i2d (R2 y2.toInt8.toInt32 (y2 >>> ((8 : Int32) &&& 31)).toInt8.toInt32)) (FP.i2d (R4 x2.toInt8.toInt32 (x2 >>> ((8 : Int32) &&& 31)).toInt8.toInt32)) (FP.i2d (R4 y2.toInt8.toInt32 (y2 >>> ((8 : Int32) &&& 31)).toInt8.toInt32)) (FP.i2d (R2 x1.toInt8.toInt32 (x1 >>> ((8 : Int32) &&& 31)).toInt8.toInt32)) (FP.i2d (R2 y1.toInt8.toInt32 (y1 >>> ((8 : Int32) &&& 31)).toInt8.toInt32)) (FP.i2d (R4 x1.toInt8.toInt32 (x1 >>> ((8 : Int32) &&& 31)).toInt8.toInt32)) (FP.i2d (R4 y1.toInt8.toInt32 (y1 >>> ((8 : Int32) &&& 31)).toInt8.toInt32))))])
      refine wiload C X24 f0_174 rfl ?_
      refine wicmp_ne C X24 f0_176 ?_ (fun q => absurd (by rw [own_int' (own_le _ _) (own_le _ _) (own_le _ _) (own_le _ _)]; simp only [Int32.lt_iff_toInt_lt] at hc104 hc128; first | exact if_pos (by omega) | exact if_neg (by omega)) q)
      intro _
      refine wiconst C X24 f0_179 (1 : Int32) rfl ?_
      refine wgoto C X24 f0_180 ?_
      refine wiretN C X24 (t := .boolean) (by simp) f0_184 rfl (1 : Int32) (by decide) (by decide) (by decide) ?_
      rw [eq24]
      exact ⟨rfl, N24⟩
  · refine wiconst C X16 f0_107 (1 : Int32) rfl ?_
    refine wgoto C X16 f0_108 ?_
    refine wistore C X16 f0_112 #[.val (.int x1), .val (.int y1), .val (.int x2), .val (.int y2), .val (.int (R2 x1.toInt8.toInt32 (x1 >>> ((8 : Int32) &&& 31)).toInt8.toInt32)), .val (.int (R4 x1.toInt8.toInt32 (x1 >>> ((8 : Int32) &&& 31)).toInt8.toInt32)), .val (.int (R2 y1.toInt8.toInt32 (y1 >>> ((8 : Int32) &&& 31)).toInt8.toInt32)), .val (.int (R4 y1.toInt8.toInt32 (y1 >>> ((8 : Int32) &&& 31)).toInt8.toInt32)), .val (.int (R2 x2.toInt8.toInt32 (x2 >>> ((8 : Int32) &&& 31)).toInt8.toInt32)), .val (.int (R4 x2.toInt8.toInt32 (x2 >>> ((8 : Int32) &&& 31)).toInt8.toInt32)), .val (.int (R2 y2.toInt8.toInt32 (y2 >>> ((8 : Int32) &&& 31)).toInt8.toInt32)), .val (.int (R4 y2.toInt8.toInt32 (y2 >>> ((8 : Int32) &&& 31)).toInt8.toInt32)), .val (.ref b9), .val (.ref b11), .val (.int (1 : Int32)), .unset, .unset] rfl ?_
    refine wiload C X16 f0_114 rfl ?_
    refine wiload C X16 f0_116 rfl ?_
    refine wstatic C X16 (y := (⟨"java/lang/Math", "max", "(II)I"⟩ : MethodName)) (tw_11 hw) (tw_12 hw) (tw_6 hw) (tw_13 hw) (by decide) (rm4 l Z a0 hw [] (R2 y1.toInt8.toInt32 (y1 >>> ((8 : Int32) &&& 31)).toInt8.toInt32) (R2 y2.toInt8.toInt32 (y2 >>> ((8 : Int32) &&& 31)).toInt8.toInt32) T13.heap n0 (Nat.le_trans q14 K13.1)) eq16 f0_118 (argsL := [(.int (R2 y1.toInt8.toInt32 (y1 >>> ((8 : Int32) &&& 31)).toInt8.toInt32)), (.int (R2 y2.toInt8.toInt32 (y2 >>> ((8 : Int32) &&& 31)).toInt8.toInt32))]) (rest := []) rfl rfl (lenOf pd_1 rfl) rfl (W := 0) (Nat.le_of_eq rfl) (by decide) (by decide) (by decide) (by decide) ?_
    intro v25 T25 L25 X25 q25
    obtain ⟨rfl, Nq25, eq25⟩ := q25
    have N25 := Fr.app N16 Nq25
    show Go p e below s _ _ _ T25 (mkF m 121 #[.val (.int x1), .val (.int y1), .val (.int x2), .val (.int y2), .val (.int (R2 x1.toInt8.toInt32 (x1 >>> ((8 : Int32) &&& 31)).toInt8.toInt32)), .val (.int (R4 x1.toInt8.toInt32 (x1 >>> ((8 : Int32) &&& 31)).toInt8.toInt32)), .val (.int (R2 y1.toInt8.toInt32 (y1 >>> ((8 : Int32) &&& 31)).toInt8.toInt32)), .val (.int (R4 y1.toInt8.toInt32 (y1 >>> ((8 : Int32) &&& 31)).toInt8.toInt32)), .val (.int (R2 x2.toInt8.toInt32 (x2 >>> ((8 : Int32) &&& 31)).toInt8.toInt32)), .val (.int (R4 x2.toInt8.toInt32 (x2 >>> ((8 : Int32) &&& 31)).toInt8.toInt32)), .val (.int (R2 y2.toInt8.toInt32 (y2 >>> ((8 : Int32) &&& 31)).toInt8.toInt32)), .val (.int (R4 y2.toInt8.toInt32 (y2 >>> ((8 : Int32) &&& 31)).toInt8.toInt32)), .val (.ref b9), .val (.ref b11), .val (.int (1 : Int32)), .unset, .unset] [(.int (R4 (R2 y1.toInt8.toInt32 (y1 >>> ((8 : Int32) &&& 31)).toInt8.toInt32) (R2 y2.toInt8.toInt32 (y2 >>> ((8 : Int32) &&& 31)).toInt8.toInt32)))])
    refine wiload C X25 f0_121 rfl ?_
    refine wiload C X25 f0_123 rfl ?_
    refine wstatic C X25 (y := (⟨"java/lang/Math", "min", "(II)I"⟩ : MethodName)) (tw_4 hw) (tw_5 hw) (tw_6 hw) (tw_7 hw) (by decide) (rm2 l Z a0 hw [] (R4 y1.toInt8.toInt32 (y1 >>> ((8 : Int32) &&& 31)).toInt8.toInt32) (R4 y2.toInt8.toInt32 (y2 >>> ((8 : Int32) &&& 31)).toInt8.toInt32) T13.heap n0 (Nat.le_trans q14 K13.1)) eq25 f0_125 (argsL := [(.int (R4 y1.toInt8.toInt32 (y1 >>> ((8 : Int32) &&& 31)).toInt8.toInt32)), (.int (R4 y2.toInt8.toInt32 (y2 >>> ((8 : Int32) &&& 31)).toInt8.toInt32))]) (rest := [(.int (R4 (R2 y1.toInt8.toInt32 (y1 >>> ((8 : Int32) &&& 31)).toInt8.toInt32) (R2 y2.toInt8.toInt32 (y2 >>> ((8 : Int32) &&& 31)).toInt8.toInt32)))]) rfl rfl (lenOf pd_1 rfl) rfl (W := 1) (Nat.le_of_eq rfl) (by decide) (by decide) (by decide) (by decide) ?_
    intro v26 T26 L26 X26 q26
    obtain ⟨rfl, Nq26, eq26⟩ := q26
    have N26 := Fr.app N25 Nq26
    show Go p e below s _ _ _ T26 (mkF m 128 #[.val (.int x1), .val (.int y1), .val (.int x2), .val (.int y2), .val (.int (R2 x1.toInt8.toInt32 (x1 >>> ((8 : Int32) &&& 31)).toInt8.toInt32)), .val (.int (R4 x1.toInt8.toInt32 (x1 >>> ((8 : Int32) &&& 31)).toInt8.toInt32)), .val (.int (R2 y1.toInt8.toInt32 (y1 >>> ((8 : Int32) &&& 31)).toInt8.toInt32)), .val (.int (R4 y1.toInt8.toInt32 (y1 >>> ((8 : Int32) &&& 31)).toInt8.toInt32)), .val (.int (R2 x2.toInt8.toInt32 (x2 >>> ((8 : Int32) &&& 31)).toInt8.toInt32)), .val (.int (R4 x2.toInt8.toInt32 (x2 >>> ((8 : Int32) &&& 31)).toInt8.toInt32)), .val (.int (R2 y2.toInt8.toInt32 (y2 >>> ((8 : Int32) &&& 31)).toInt8.toInt32)), .val (.int (R4 y2.toInt8.toInt32 (y2 >>> ((8 : Int32) &&& 31)).toInt8.toInt32)), .val (.ref b9), .val (.ref b11), .val (.int (1 : Int32)), .unset, .unset] [(.int (R2 (R4 y1.toInt8.toInt32 (y1 >>> ((8 : Int32) &&& 31)).toInt8.toInt32) (R4 y2.toInt8.toInt32 (y2 >>> ((8 : Int32) &&& 31)).toInt8.toInt32))), (.int (R4 (R2 y1.toInt8.toInt32 (y1 >>> ((8 : Int32) &&& 31)).toInt8.toInt32) (R2 y2.toInt8.toInt32 (y2 >>> ((8 : Int32) &&& 31)).toInt8.toInt32)))])
    refine wicmp_gt C X26 f0_128 (fun hc128 => ?_) (fun hc128 => ?_)
    · refine wiconst C X26 f0_135 (0 : Int32) rfl ?_
      refine wistore C X26 f0_136 #[.val (.int x1), .val (.int y1), .val (.int x2), .val (.int y2), .val (.int (R2 x1.toInt8.toInt32 (x1 >>> ((8 : Int32) &&& 31)).toInt8.toInt32)), .val (.int (R4 x1.toInt8.toInt32 (x1 >>> ((8 : Int32) &&& 31)).toInt8.toInt32)), .val (.int (R2 y1.toInt8.toInt32 (y1 >>> ((8 : Int32) &&& 31)).toInt8.toInt32)), .val (.int (R4 y1.toInt8.toInt32 (y1 >>> ((8 : Int32) &&& 31)).toInt8.toInt32)), .val (.int (R2 x2.toInt8.toInt32 (x2 >>> ((8 : Int32) &&& 31)).toInt8.toInt32)), .val (.int (R4 x2.toInt8.toInt32 (x2 >>> ((8 : Int32) &&& 31)).toInt8.toInt32)), .val (.int (R2 y2.toInt8.toInt32 (y2 >>> ((8 : Int32) &&& 31)).toInt8.toInt32)), .val (.int (R4 y2.toInt8.toInt32 (y2 >>> ((8 : Int32) &&& 31)).toInt8.toInt32)), .val (.ref b9), .val (.ref b11), .val (.int (1 : Int32)), .val (.int (0 : Int32)), .unset] rfl ?_
      refine wiload C X26 f0_138 rfl ?_
      refine wif_eq C X26 f0_140 (fun q => absurd q (by decide : ¬ ((1 : Int32) = (0 : Int32)))) ?_
      intro _
      refine wiload C X26 f0_143 rfl ?_
      refine wif_eq C X26 f0_145 ?_ (fun q => absurd (by decide : ((0 : Int32) = (0 : Int32))) q)
      intro _
      refine wiconst C X26 f0_152 (0 : Int32) rfl ?_
      refine wistore C X26 f0_153 #[.val (.int x1), .val (.int y1), .val (.int x2), .val (.int y2), .val (.int (R2 x1.toInt8.toInt32 (x1 >>> ((8 : Int32) &&& 31)).toInt8.toInt32)), .val (.int (R4 x1.toInt8.toInt32 (x1 >>> ((8 : Int32) &&& 31)).toInt8.toInt32)), .val (.int (R2 y1.toInt8.toInt32 (y1 >>> ((8 : Int32) &&& 31)).toInt8.toInt32)), .val (.int (R4 y1.toInt8.toInt32 (y1 >>> ((8 : Int32) &&& 31)).toInt8.toInt32)), .val (.int (R2 x2.toInt8.toInt32 (x2 >>> ((8 : Int32) &&& 31)).toInt8.toInt32)), .val (.int (R4 x2.toInt8.toInt32 (x2 >>> ((8 : Int32) &&& 31)).toInt8.toInt32)), .val (.int (R2 y2.toInt8.toInt32 (y2 >>> ((8 : Int32) &&& 31)).toInt8.toInt32)), .val (.int (R4 y2.toInt8.toInt32 (y2 >>> ((8 : Int32) &&& 31)).toInt8.toInt32)), .val (.ref b9), .val (.ref b11), .val (.int (1 : Int32)), .val (.int (0 : Int32)), .val (.int (0 : Int32))] rfl ?_
      refine waload C X26 f0_155 rfl rfl ?_
      refine waload C X26 f0_157 rfl rfl ?_
      have ne28 : b9 ≠ b11 := (Nat.ne_of_lt (Nat.lt_of_lt_of_le (Nat.lt_of_lt_of_le A9.lt K10.1) (Nat.le_of_eq g11.symm)))
      refine wvirtual C X26 (y := (⟨"com/example/cartomesh/cartomesh/model/Rect", "intersects", "(Lcom/example/cartomesh/cartomesh/model/Rect;)Z"⟩ : MethodName)) (z := (⟨"com/example/cartomesh/cartomesh/model/Rect", "intersects", "(Lcom/example/cartomesh/cartomesh/model/Rect;)Z"⟩ : MethodName)) (tw_36 hw) (tw_37 hw) (notFace_of_selects (args := #[]) (mvT C.2.1 (tw_39 hw))) (tw_39 hw) (tw_38 hw) (tw_40 hw) (tw_16 hw) (by decide) (rm8 l Z a0 hw [] b9 b11 (FP.i2d (R2 x1.toInt8.toInt32 (x1 >>> ((8 : Int32) &&& 31)).toInt8.toInt32)) (FP.i2d (R2 y1.toInt8.toInt32 (y1 >>> ((8 : Int32) &&& 31)).toInt8.toInt32)) (FP.i2d (R4 x1.toInt8.toInt32 (x1 >>> ((8 : Int32) &&& 31)).toInt8.toInt32)) (FP.i2d (R4 y1.toInt8.toInt32 (y1 >>> ((8 : Int32) &&& 31)).toInt8.toInt32)) (FP.i2d (R2 x2.toInt8.toInt32 (x2 >>> ((8 : Int32) &&& 31)).toInt8.toInt32)) (FP.i2d (R2 y2.toInt8.toInt32 (y2 >>> ((8 : Int32) &&& 31)).toInt8.toInt32)) (FP.i2d (R4 x2.toInt8.toInt32 (x2 >>> ((8 : Int32) &&& 31)).toInt8.toInt32)) (FP.i2d (R4 y2.toInt8.toInt32 (y2 >>> ((8 : Int32) &&& 31)).toInt8.toInt32)) T13.heap n0 (Nat.le_trans q14 K13.1) ((G10_1.ext E11).keep K13 (ninS ne28 nin0)) ((G10_2.ext E11).keep K13 (ninS ne28 nin0)) ((G10_3.ext E11).keep K13 (ninS ne28 nin0)) ((G10_4.ext E11).keep K13 (ninS ne28 nin0)) G13_1 G13_2 G13_3 G13_4) eq26 (a := b9) ((G10_0.ext E11).keep K13) f0_159 (argsL := [(.ref b11)]) (rest := []) rfl rfl (lenOf pd_4 rfl) rfl (W := 0) (Nat.le_of_eq rfl) (by decide) (by decide) (by decide) (by decide) ?_
      intro v27 T27 L27 X27 q27
      obtain ⟨rfl, Nq27, eq27⟩ := q27
      have N27 := Fr.app N26 Nq27
      show Go p e below s _ _ _ T27 (mkF m 162 #[.val (.int x1), .val (.int y1), .val (.int x2), .val (.int y2), .val (.int (R2 x1.toInt8.toInt32 (x1 >>> ((8 : Int32) &&& 31)).toInt8.toInt32)), .val (.int (R4 x1.toInt8.toInt32 (x1 >>> ((8 : Int32) &&& 31)).toInt8.toInt32)), .val (.int (R2 y1.toInt8.toInt32 (y1 >>> ((8 : Int32) &&& 31)).toInt8.toInt32)), .val (.int (R4 y1.toInt8.toInt32 (y1 >>> ((8 : Int32) &&& 31)).toInt8.toInt32)), .val (.int (R2 x2.toInt8.toInt32 (x2 >>> ((8 : Int32) &&& 31)).toInt8.toInt32)), .val (.int (R4 x2.toInt8.toInt32 (x2 >>> ((8 : Int32) &&& 31)).toInt8.toInt32)), .val (.int (R2 y2.toInt8.toInt32 (y2 >>> ((8 : Int32) &&& 31)).toInt8.toInt32)), .val (.int (R4 y2.toInt8.toInt32 (y2 >>> ((8 : Int32) &&& 31)).toInt8.toInt32)), .val (.ref b9), .val (.ref b11), .val (.int (1 : Int32)), .val (.int (0 : Int32)), .val (.int (0 : Int32))] [(.int (R8 (FP.i2d (R2 x1.toInt8.toInt32 (x1 >>> ((8 : Int32) &&& 31)).toInt8.toInt32)) (FP.i2d (R2 y1.toInt8.toInt32 (y1 >>> ((8 : Int32) &&& 31)).toInt8.toInt32)) (FP.i2d (R4 x1.toInt8.toInt32 (x1 >>> ((8 : Int32) &&& 31)).toInt8.toInt32)) (FP.i2d (R4 y1.toInt8.toInt32 (y1 >>> ((8 : Int32) &&& 31)).toInt8.toInt32)) (FP.i2d (R2 x2.toInt8.toInt32 (x2 >>> ((8 : Int32) &&& 31)).toInt8.toInt32)) (FP.i2d (R2 y2.toInt8.toInt32 (y2 >>> ((8 : Int32) &&& 31)).toInt8.toInt32)) (FP.i2d (R4 x2.toInt8.toInt32 (x2 >>> ((8 : Int32) &&& 31)).toInt8.toInt32)) (FP.i2d (R4 y2.toInt8.toInt32 (y2 >>> ((8 : Int32) &&& 31)).toInt8.toInt32))))])
      refine wiload C X27 f0_162 rfl ?_
      refine wicmp_ne C X27 f0_164 ?_ (fun q => absurd (by rw [own_int (own_le _ _) (own_le _ _) (own_le _ _) (own_le _ _)]; simp only [Int32.lt_iff_toInt_lt] at hc104 hc128; first | exact if_pos (by omega) | exact if_neg (by omega)) q)
      intro _
      refine waload C X27 f0_167 rfl rfl ?_
      refine waload C X27 f0_169 rfl rfl ?_
      refine wvirtual C X27 (y := (⟨"com/example/cartomesh/cartomesh/model/Rect", "intersects", "(Lcom/example/cartomesh/cartomesh/model/Rect;)Z"⟩ : MethodName)) (z := (⟨"com/example/cartomesh/cartomesh/model/Rect", "intersects", "(Lcom/example/cartomesh/cartomesh/model/Rect;)Z"⟩ : MethodName)) (tw_36 hw) (tw_37 hw) (notFace_of_selects (args := #[]) (mvT C.2.1 (tw_39 hw))) (tw_39 hw) (tw_38 hw) (tw_40 hw) (tw_16 hw) (by decide) (rm8 l Z a0 hw [] b11 b9 (FP.i2d (R2 x2.toInt8.toInt32 (x2 >>> ((8 : Int32) &&& 31)).toInt8.toInt32)) (FP.i2d (R2 y2.toInt8.toInt32 (y2 >>> ((8 : Int32) &&& 31)).toInt8.toInt32)) (FP.i2d (R4 x2.toInt8.toInt32 (x2 >>> ((8 : Int32) &&& 31)).toInt8.toInt32)) (FP.i2d (R4 y2.toInt8.toInt32 (y2 >>> ((8 : Int32) &&& 31)).toInt8.toInt32)) (FP.i2d (R2 x1.toInt8.toInt32 (x1 >>> ((8 : Int32) &&& 31)).toInt8.toInt32)) (FP.i2d (R2 y1.toInt8.toInt32 (y1 >>> ((8 : Int32) &&& 31)).toInt8.toInt32)) (FP.i2d (R4 x1.toInt8.toInt32 (x1 >>> ((8 : Int32) &&& 31)).toInt8.toInt32)) (FP.i2d (R4 y1.toInt8.toInt32 (y1 >>> ((8 : Int32) &&& 31)).toInt8.toInt32)) T13.heap n0 (Nat.le_trans q14 K13.1) G13_1 G13_2 G13_3 G13_4 ((G10_1.ext E11).keep K13 (ninS ne28 nin0)) ((G10_2.ext E11).keep K13 (ninS ne28 nin0)) ((G10_3.ext E11).keep K13 (ninS ne28 nin0)) ((G10_4.ext E11).keep K13 (ninS ne28 nin0))) eq27 (a := b11) G13_0 f0_171 (argsL := [(.ref b9)]) (rest := []) rfl rfl (lenOf pd_4 rfl) rfl (W := 0) (Nat.le_of_eq rfl) (by decide) (by decide) (by decide) (by decide) ?_
      intro v29 T29 L29 X29 q29
      obtain ⟨rfl, Nq29, eq29⟩ := q29
      have N29 := Fr.app N27 Nq29
      show Go p e below s _ _ _ T29 (mkF m 174 #[.val (.int x1), .val (.int y1), .val (.int x2), .val (.int y2), .val (.int (R2 x1.toInt8.toInt32 (x1 >>> ((8 : Int32) &&& 31)).toInt8.toInt32)), .val (.int (R4 x1.toInt8.toInt32 (x1 >>> ((8 : Int32) &&& 31)).toInt8.toInt32)), .val (.int (R2 y1.toInt8.toInt32 (y1 >>> ((8 : Int32) &&& 31)).toInt8.toInt32)), .val (.int (R4 y1.toInt8.toInt32 (y1 >>> ((8 : Int32) &&& 31)).toInt8.toInt32)), .val (.int (R2 x2.toInt8.toInt32 (x2 >>> ((8 : Int32) &&& 31)).toInt8.toInt32)), .val (.int (R4 x2.toInt8.toInt32 (x2 >>> ((8 : Int32) &&& 31)).toInt8.toInt32)), .val (.int (R2 y2.toInt8.toInt32 (y2 >>> ((8 : Int32) &&& 31)).toInt8.toInt32)), .val (.int (R4 y2.toInt8.toInt32 (y2 >>> ((8 : Int32) &&& 31)).toInt8.toInt32)), .val (.ref b9), .val (.ref b11), .val (.int (1 : Int32)), .val (.int (0 : Int32)), .val (.int (0 : Int32))] [(.int (R8 (FP.i2d (R2 x2.toInt8.toInt32 (x2 >>> ((8 : Int32) &&& 31)).toInt8.toInt32)) (FP.i2d (R2 y2.toInt8.toInt32 (y2 >>> ((8 : Int32) &&& 31)).toInt8.toInt32)) (FP.i2d (R4 x2.toInt8.toInt32 (x2 >>> ((8 : Int32) &&& 31)).toInt8.toInt32)) (FP.i2d (R4 y2.toInt8.toInt32 (y2 >>> ((8 : Int32) &&& 31)).toInt8.toInt32)) (FP.i2d (R2 x1.toInt8.toInt32 (x1 >>> ((8 : Int32) &&& 31)).toInt8.toInt32)) (FP.i2d (R2 y1.toInt8.toInt32 (y1 >>> ((8 : Int32) &&& 31)).toInt8.toInt32)) (FP.i2d (R4 x1.toInt8.toInt32 (x1 >>> ((8 : Int32) &&& 31)).toInt8.toInt32)) (FP.i2d (R4 y1.toInt8.toInt32 (y1 >>> ((8 : Int32) &&& 31)).toInt8.toInt32))))])
      refine wiload C X29 f0_174 rfl ?_
      refine wicmp_ne C X29 f0_176 ?_ (fun q => absurd (by rw [own_int' (own_le _ _) (own_le _ _) (own_le _ _) (own_le _ _)]; simp only [Int32.lt_iff_toInt_lt] at hc104 hc128; first | exact if_pos (by omega) | exact if_neg (by omega)) q)
      intro _
      refine wiconst C X29 f0_179 (1 : Int32) rfl ?_
      refine wgoto C X29 f0_180 ?_
      refine wiretN C X29 (t := .boolean) (by simp) f0_184 rfl (1 : Int32) (by decide) (by decide) (by decide) ?_
      rw [eq29]
      exact ⟨rfl, N29⟩
    · refine wiconst C X26 f0_131 (1 : Int32) rfl ?_
      refine wgoto C X26 f0_132 ?_
      refine wistore C X26 f0_136 #[.val (.int x1), .val (.int y1), .val (.int x2), .val (.int y2), .val (.int (R2 x1.toInt8.toInt32 (x1 >>> ((8 : Int32) &&& 31)).toInt8.toInt32)), .val (.int (R4 x1.toInt8.toInt32 (x1 >>> ((8 : Int32) &&& 31)).toInt8.toInt32)), .val (.int (R2 y1.toInt8.toInt32 (y1 >>> ((8 : Int32) &&& 31)).toInt8.toInt32)), .val (.int (R4 y1.toInt8.toInt32 (y1 >>> ((8 : Int32) &&& 31)).toInt8.toInt32)), .val (.int (R2 x2.toInt8.toInt32 (x2 >>> ((8 : Int32) &&& 31)).toInt8.toInt32)), .val (.int (R4 x2.toInt8.toInt32 (x2 >>> ((8 : Int32) &&& 31)).toInt8.toInt32)), .val (.int (R2 y2.toInt8.toInt32 (y2 >>> ((8 : Int32) &&& 31)).toInt8.toInt32)), .val (.int (R4 y2.toInt8.toInt32 (y2 >>> ((8 : Int32) &&& 31)).toInt8.toInt32)), .val (.ref b9), .val (.ref b11), .val (.int (1 : Int32)), .val (.int (1 : Int32)), .unset] rfl ?_
      refine wiload C X26 f0_138 rfl ?_
      refine wif_eq C X26 f0_140 (fun q => absurd q (by decide : ¬ ((1 : Int32) = (0 : Int32)))) ?_
      intro _
      refine wiload C X26 f0_143 rfl ?_
      refine wif_eq C X26 f0_145 (fun q => absurd q (by decide : ¬ ((1 : Int32) = (0 : Int32)))) ?_
      intro _
      refine wiconst C X26 f0_148 (1 : Int32) rfl ?_
      refine wgoto C X26 f0_149 ?_
      refine wistore C X26 f0_153 #[.val (.int x1), .val (.int y1), .val (.int x2), .val (.int y2), .val (.int (R2 x1.toInt8.toInt32 (x1 >>> ((8 : Int32) &&& 31)).toInt8.toInt32)), .val (.int (R4 x1.toInt8.toInt32 (x1 >>> ((8 : Int32) &&& 31)).toInt8.toInt32)), .val (.int (R2 y1.toInt8.toInt32 (y1 >>> ((8 : Int32) &&& 31)).toInt8.toInt32)), .val (.int (R4 y1.toInt8.toInt32 (y1 >>> ((8 : Int32) &&& 31)).toInt8.toInt32)), .val (.int (R2 x2.toInt8.toInt32 (x2 >>> ((8 : Int32) &&& 31)).toInt8.toInt32)), .val (.int (R4 x2.toInt8.toInt32 (x2 >>> ((8 : Int32) &&& 31)).toInt8.toInt32)), .val (.int (R2 y2.toInt8.toInt32 (y2 >>> ((8 : Int32) &&& 31)).toInt8.toInt32)), .val (.int (R4 y2.toInt8.toInt32 (y2 >>> ((8 : Int32) &&& 31)).toInt8.toInt32)), .val (.ref b9), .val (.ref b11), .val (.int (1 : Int32)), .val (.int (1 : Int32)), .val (.int (1 : Int32))] rfl ?_
      refine waload C X26 f0_155 rfl rfl ?_
      refine waload C X26 f0_157 rfl rfl ?_
      have ne31 : b9 ≠ b11 := (Nat.ne_of_lt (Nat.lt_of_lt_of_le (Nat.lt_of_lt_of_le A9.lt K10.1) (Nat.le_of_eq g11.symm)))
      refine wvirtual C X26 (y := (⟨"com/example/cartomesh/cartomesh/model/Rect", "intersects", "(Lcom/example/cartomesh/cartomesh/model/Rect;)Z"⟩ : MethodName)) (z := (⟨"com/example/cartomesh/cartomesh/model/Rect", "intersects", "(Lcom/example/cartomesh/cartomesh/model/Rect;)Z"⟩ : MethodName)) (tw_36 hw) (tw_37 hw) (notFace_of_selects (args := #[]) (mvT C.2.1 (tw_39 hw))) (tw_39 hw) (tw_38 hw) (tw_40 hw) (tw_16 hw) (by decide) (rm8 l Z a0 hw [] b9 b11 (FP.i2d (R2 x1.toInt8.toInt32 (x1 >>> ((8 : Int32) &&& 31)).toInt8.toInt32)) (FP.i2d (R2 y1.toInt8.toInt32 (y1 >>> ((8 : Int32) &&& 31)).toInt8.toInt32)) (FP.i2d (R4 x1.toInt8.toInt32 (x1 >>> ((8 : Int32) &&& 31)).toInt8.toInt32)) (FP.i2d (R4 y1.toInt8.toInt32 (y1 >>> ((8 : Int32) &&& 31)).toInt8.toInt32)) (FP.i2d (R2 x2.toInt8.toInt32 (x2 >>> ((8 : Int32) &&& 31)).toInt8.toInt32)) (FP.i2d (R2 y2.toInt8.toInt32 (y2 >>> ((8 : Int32) &&& 31)).toInt8.toInt32)) (FP.i2d (R4 x2.toInt8.toInt32 (x2 >>> ((8 : Int32) &&& 31)).toInt8.toInt32)) (FP.i2d (R4 y2.toInt8.toInt32 (y2 >>> ((8 : Int32) &&& 31)).toInt8.toInt32)) T13.heap n0 (Nat.le_trans q14 K13.1) ((G10_1.ext E11).keep K13 (ninS ne31 nin0)) ((G10_2.ext E11).keep K13 (ninS ne31 nin0)) ((G10_3.ext E11).keep K13 (ninS ne31 nin0)) ((G10_4.ext E11).keep K13 (ninS ne31 nin0)) G13_1 G13_2 G13_3 G13_4) eq26 (a := b9) ((G10_0.ext E11).keep K13) f0_159 (argsL := [(.ref b11)]) (rest := []) rfl rfl (lenOf pd_4 rfl) rfl (W := 0) (Nat.le_of_eq rfl) (by decide) (by decide) (by decide) (by decide) ?_
      intro v30 T30 L30 X30 q30
      obtain ⟨rfl, Nq30, eq30⟩ := q30
      have N30 := Fr.app N26 Nq30
      show Go p e below s _ _ _ T30 (mkF m 162 #[.val (.int x1), .val (.int y1), .val (.int x2), .val (.int y2), .val (.int (R2 x1.toInt8.toInt32 (x1 >>> ((8 : Int32) &&& 31)).toInt8.toInt32)), .val (.int (R4 x1.toInt8.toInt32 (x1 >>> ((8 : Int32) &&& 31)).toInt8.toInt32)), .val (.int (R2 y1.toInt8.toInt32 (y1 >>> ((8 : Int32) &&& 31)).toInt8.toInt32)), .val (.int (R4 y1.toInt8.toInt32 (y1 >>> ((8 : Int32) &&& 31)).toInt8.toInt32)), .val (.int (R2 x2.toInt8.toInt32 (x2 >>> ((8 : Int32) &&& 31)).toInt8.toInt32)), .val (.int (R4 x2.toInt8.toInt32 (x2 >>> ((8 : Int32) &&& 31)).toInt8.toInt32)), .val (.int (R2 y2.toInt8.toInt32 (y2 >>> ((8 : Int32) &&& 31)).toInt8.toInt32)), .val (.int (R4 y2.toInt8.toInt32 (y2 >>> ((8 : Int32) &&& 31)).toInt8.toInt32)), .val (.ref b9), .val (.ref b11), .val (.int (1 : Int32)), .val (.int (1 : Int32)), .val (.int (1 : Int32))] [(.int (R8 (FP.i2d (R2 x1.toInt8.toInt32 (x1 >>> ((8 : Int32) &&& 31)).toInt8.toInt32)) (FP.i2d (R2 y1.toInt8.toInt32 (y1 >>> ((8 : Int32) &&& 31)).toInt8.toInt32)) (FP.i2d (R4 x1.toInt8.toInt32 (x1 >>> ((8 : Int32) &&& 31)).toInt8.toInt32)) (FP.i2d (R4 y1.toInt8.toInt32 (y1 >>> ((8 : Int32) &&& 31)).toInt8.toInt32)) (FP.i2d (R2 x2.toInt8.toInt32 (x2 >>> ((8 : Int32) &&& 31)).toInt8.toInt32)) (FP.i2d (R2 y2.toInt8.toInt32 (y2 >>> ((8 : Int32) &&& 31)).toInt8.toInt32)) (FP.i2d (R4 x2.toInt8.toInt32 (x2 >>> ((8 : Int32) &&& 31)).toInt8.toInt32)) (FP.i2d (R4 y2.toInt8.toInt32 (y2 >>> ((8 : Int32) &&& 31)).toInt8.toInt32))))])
      refine wiload C X30 f0_162 rfl ?_
      refine wicmp_ne C X30 f0_164 ?_ (fun q => absurd (by rw [own_int (own_le _ _) (own_le _ _) (own_le _ _) (own_le _ _)]; simp only [Int32.lt_iff_toInt_lt] at hc104 hc128; first | exact if_pos (by omega) | exact if_neg (by omega)) q)
      intro _
      refine waload C X30 f0_167 rfl rfl ?_
      refine waload C X30 f0_169 rfl rfl ?_
      refine wvirtual C X30 (y := (⟨"com/example/cartomesh/cartomesh/model/Rect", "intersects", "(Lcom/example/cartomesh/cartomesh/model/Rect;)Z"⟩ : MethodName)) (z := (⟨"com/example/cartomesh/cartomesh/model/Rect", "intersects", "(Lcom/example/cartomesh/cartomesh/model/Rect;)Z"⟩ : MethodName)) (tw_36 hw) (tw_37 hw) (notFace_of_selects (args := #[]) (mvT C.2.1 (tw_39 hw))) (tw_39 hw) (tw_38 hw) (tw_40 hw) (tw_16 hw) (by decide) (rm8 l Z a0 hw [] b11 b9 (FP.i2d (R2 x2.toInt8.toInt32 (x2 >>> ((8 : Int32) &&& 31)).toInt8.toInt32)) (FP.i2d (R2 y2.toInt8.toInt32 (y2 >>> ((8 : Int32) &&& 31)).toInt8.toInt32)) (FP.i2d (R4 x2.toInt8.toInt32 (x2 >>> ((8 : Int32) &&& 31)).toInt8.toInt32)) (FP.i2d (R4 y2.toInt8.toInt32 (y2 >>> ((8 : Int32) &&& 31)).toInt8.toInt32)) (FP.i2d (R2 x1.toInt8.toInt32 (x1 >>> ((8 : Int32) &&& 31)).toInt8.toInt32)) (FP.i2d (R2 y1.toInt8.toInt32 (y1 >>> ((8 : Int32) &&& 31)).toInt8.toInt32)) (FP.i2d (R4 x1.toInt8.toInt32 (x1 >>> ((8 : Int32) &&& 31)).toInt8.toInt32)) (FP.i2d (R4 y1.toInt8.toInt32 (y1 >>> ((8 : Int32) &&& 31)).toInt8.toInt32)) T13.heap n0 (Nat.le_trans q14 K13.1) G13_1 G13_2 G13_3 G13_4 ((G10_1.ext E11).keep K13 (ninS ne31 nin0)) ((G10_2.ext E11).keep K13 (ninS ne31 nin0)) ((G10_3.ext E11).keep K13 (ninS ne31 nin0)) ((G10_4.ext E11).keep K13 (ninS ne31 nin0))) eq30 (a := b11) G13_0 f0_171 (argsL := [(.ref b9)]) (rest := []) rfl rfl (lenOf pd_4 rfl) rfl (W := 0) (Nat.le_of_eq rfl) (by decide) (by decide) (by decide) (by decide) ?_
      intro v32 T32 L32 X32 q32
      obtain ⟨rfl, Nq32, eq32⟩ := q32
      have N32 := Fr.app N30 Nq32
      show Go p e below s _ _ _ T32 (mkF m 174 #[.val (.int x1), .val (.int y1), .val (.int x2), .val (.int y2), .val (.int (R2 x1.toInt8.toInt32 (x1 >>> ((8 : Int32) &&& 31)).toInt8.toInt32)), .val (.int (R4 x1.toInt8.toInt32 (x1 >>> ((8 : Int32) &&& 31)).toInt8.toInt32)), .val (.int (R2 y1.toInt8.toInt32 (y1 >>> ((8 : Int32) &&& 31)).toInt8.toInt32)), .val (.int (R4 y1.toInt8.toInt32 (y1 >>> ((8 : Int32) &&& 31)).toInt8.toInt32)), .val (.int (R2 x2.toInt8.toInt32 (x2 >>> ((8 : Int32) &&& 31)).toInt8.toInt32)), .val (.int (R4 x2.toInt8.toInt32 (x2 >>> ((8 : Int32) &&& 31)).toInt8.toInt32)), .val (.int (R2 y2.toInt8.toInt32 (y2 >>> ((8 : Int32) &&& 31)).toInt8.toInt32)), .val (.int (R4 y2.toInt8.toInt32 (y2 >>> ((8 : Int32) &&& 31)).toInt8.toInt32)), .val (.ref b9), .val (.ref b11), .val (.int (1 : Int32)), .val (.int (1 : Int32)), .val (.int (1 : Int32))] [(.int (R8 (FP.i2d (R2 x2.toInt8.toInt32 (x2 >>> ((8 : Int32) &&& 31)).toInt8.toInt32)) (FP.i2d (R2 y2.toInt8.toInt32 (y2 >>> ((8 : Int32) &&& 31)).toInt8.toInt32)) (FP.i2d (R4 x2.toInt8.toInt32 (x2 >>> ((8 : Int32) &&& 31)).toInt8.toInt32)) (FP.i2d (R4 y2.toInt8.toInt32 (y2 >>> ((8 : Int32) &&& 31)).toInt8.toInt32)) (FP.i2d (R2 x1.toInt8.toInt32 (x1 >>> ((8 : Int32) &&& 31)).toInt8.toInt32)) (FP.i2d (R2 y1.toInt8.toInt32 (y1 >>> ((8 : Int32) &&& 31)).toInt8.toInt32)) (FP.i2d (R4 x1.toInt8.toInt32 (x1 >>> ((8 : Int32) &&& 31)).toInt8.toInt32)) (FP.i2d (R4 y1.toInt8.toInt32 (y1 >>> ((8 : Int32) &&& 31)).toInt8.toInt32))))])
      refine wiload C X32 f0_174 rfl ?_
      refine wicmp_ne C X32 f0_176 ?_ (fun q => absurd (by rw [own_int' (own_le _ _) (own_le _ _) (own_le _ _) (own_le _ _)]; simp only [Int32.lt_iff_toInt_lt] at hc104 hc128; first | exact if_pos (by omega) | exact if_neg (by omega)) q)
      intro _
      refine wiconst C X32 f0_179 (1 : Int32) rfl ?_
      refine wgoto C X32 f0_180 ?_
      refine wiretN C X32 (t := .boolean) (by simp) f0_184 rfl (1 : Int32) (by decide) (by decide) (by decide) ?_
      rw [eq32]
      exact ⟨rfl, N32⟩
set_option maxRecDepth 65536 in
set_option maxHeartbeats 40000000 in
theorem comes_1 {Post : Tables → Env → Array Value → State → Outcome → State → Prop} (hpost : ∀ tb e args s v u, (limb_1_1.after args s (.returned v) u = true ∧ limb_1_2.after args s (.returned v) u = true ∧ True) → FrameEnd s (.returned v) u (Jvm.fieldLocs frame_1_writes args s ++ Jvm.arrayLocs frame_1_arrays args s ++ Jvm.staticLocs frame_1_statics s) 16 128 → Post tb e args s (.returned v) u) :
    ArmFor flags0 classFile x code maxLocals ret World_1 tables_1 room_1 Calls_1 rest_1 Pre_1 Post := by
  intro l hfl _ _ p e ha hc hk s m args below hf hA hF happ hP
  obtain ⟨hcalls, hrest, hpre⟩ := hP
  obtain ⟨-, -, -, hnamed, -, -, -, hat⟩ := (Spec.applies_iff hf).mp happ
  obtain ⟨hg, hn⟩ := and_e (Cond.before_iff.mp (show (Jvm.Cond.and given_1 narrow_1).before args s = true from hpre))
  obtain ⟨hg0, hr0⟩ := and_e hg
  obtain ⟨hg1, hr1⟩ := and_e hr0
  obtain ⟨hg2, hr2⟩ := and_e hr1
  obtain ⟨hg3, hr3⟩ := and_e hr2
  obtain ⟨w0, w1, w2, w3, rfl⟩ : ∃ w0 w1 w2 w3 : Value, args = #[w0, w1, w2, w3] := by
    have hs : args.size = 4 := by simpa [Cond.value, given_1] using hg0
    obtain ⟨L⟩ := args
    match L, hs with
    | [w0, w1, w2, w3], _ => exact ⟨w0, w1, w2, w3, rfl⟩
  have hw := fun d (hd : d ∈ tables_1) => atoms_spec (ws := Jvm.Cond.code x code maxLocals ret :: tables_1) hat d (List.mem_cons_of_mem _ hd)
  have hfit : Fit s := fun {y c} hc i hi => by
    obtain ⟨ha, rfl⟩ := Array.getElem?_eq_some_iff.mp hc
    have q := List.all_eq_true.mp ((Array.all_eq_true_iff_forall_mem.mp hF) _ (Array.getElem_mem ha)) i (List.mem_range.mpr hi)
    simpa [Array.getElem?_eq_getElem hi] using q
  obtain ⟨i0, ei0⟩ := is_v hg1
  obtain rfl : w0 = (.int i0) := Option.some.inj ei0
  obtain ⟨i1, ei1⟩ := is_v hg2
  obtain rfl : w1 = (.int i1) := Option.some.inj ei1
  obtain ⟨i2, ei2⟩ := is_v hg3
  obtain rfl : w2 = (.int i2) := Option.some.inj ei2
  obtain ⟨i3, ei3⟩ := is_v hr3
  obtain rfl : w3 = (.int i3) := Option.some.inj ei3
  obtain ⟨n, o, h1, h2, h3, _, L, rfl, ⟨rfl, N⟩, hq⟩ := rm0 l s _ hw tables_1 i0 i1 i2 i3 s.heap s.heap.size (Nat.le_refl _) p e ha hc hk s m _ below hf ((Spec.applies_iff_loose hf).mp happ).1 ⟨rfl, State.Warmed39.refl s, rfl⟩ trivial
  refine ⟨n, _, h1, h2, h3, hpost _ _ _ _ _ _ ⟨Cond.after_iff.mpr rfl, Cond.after_iff.mpr (eq_i res_at (Term.int_eval (1)) rfl), trivial⟩ ⟨hq.1, hq.2.1, (hq.2.2.sift fun y hy => Or.inr (N y hy)).mono (by decide) (by decide)⟩⟩
theorem main_1_1 : Claimed_1_1 := comes_1 fun _ _ _ _ _ _ h hF => ⟨h.1, hF⟩
theorem main_1_2 : Claimed_1_2 := comes_1 fun _ _ _ _ _ _ h hF => ⟨h.2.1, hF⟩
end Jvm.Pilot.@@N@@
namespace Jvm.Pilot.@@N@@
open Jvm Jvm.ClassFile Sem Op Lib Jvm.Free Jvm.Stand Jvm.Pilot.@@N@@.Jvm.D
/-! MADE BY PROGRAM (witnessworld.py) out of the Statement's table words and the real class files: 11 classes; the members and pool entries that the words name. The judged class is class 1, her method 3. -/
namespace start1
open Jvm.ClassFile
def u (s : String) : CpInfo := .utf8 (stringToUtf16 s)
/-- a pool by its gaps: so many unusable entries, then the entry; so many at the end -/
def gap : Nat → List CpInfo → List CpInfo
  | 0, r => r
  | n + 1, r => .unusable :: gap n r
def poolList (es : List (Nat × CpInfo)) (last : Nat) : List CpInfo := es.foldr (fun e r => gap e.1 (e.2 :: r)) (gap last [])
def pool (es : List (Nat × CpInfo)) (last : Nat) : Array CpInfo := ⟨poolList es last⟩
def fileOf (pool : Array CpInfo) (this : Nat) (attrs : Array Attribute := #[]) (ms : Array MethodInfo := #[]) (fl : Nat := 33) (sup : Nat := 0) (ifs : Array Nat := #[]) (fds : Array FieldInfo := #[]) : ClassFile where
  minorVersion := 0
  majorVersion := 65
  constantPool := pool
  accessFlags := fl
  thisClass := this
  superClass := sup
  interfaces := ifs
  fields := fds
  methods := ms
  attributes := attrs
def plain (name : String) (sup : Option ClassId) : Class where
  name := name
  kind := .ordinary
  loader := none
  accessFlags := 33
  super := sup
  interfaces := #[]
  cf := none
  fields := #[]
  methods := #[]
  instanceTypes := #[]
  staticTypes := #[]
  resolved := #[]
  callSites := []
  init := .initialized
  statics := none
  mirror := none

def pool0 : Array CpInfo := pool [(5, u "<init>"), (0, u "()V"), (1, .class_ 10), (1, u "java/lang/Object")] 113

def k0c0 : Code := { maxStack := 0, maxLocals := 1, code := object_method_1_code, exceptionTable := #[], attributes := #[] }
def k0m0 : Method := { name := "<init>", desc := "()V", sig := { parameters := [], returnType := none }, accessFlags := 1, code := some k0c0 }
/-- java/lang/Object -/
def k0 : Class := { plain "java/lang/Object" none with
  accessFlags := 33
  interfaces := #[]
  cf := some (fileOf pool0 8 #[] #[{ accessFlags := 1, nameIndex := 5, descriptorIndex := 6, attributes := #[] }] 33 0 #[] #[])
  fields := #[]
  methods := #[k0m0]
  instanceTypes := #[]
  staticTypes := #[]
  resolved := Array.replicate 124 none
  statics := none }

def pool1 : Array CpInfo := pool [(2, .class_ 4), (1, u "java/lang/Object"), (0, u "<init>"), (0, u "()V"), (0, .methodref 8 9), (0, .class_ 10), (0, .nameAndType 11 12), (0, u "java/lang/Math"), (0, u "min"), (0, u "(II)I"), (0, .methodref 8 14), (0, .nameAndType 15 12), (0, u "max"), (0, .methodref 17 18), (0, .class_ 19), (0, .nameAndType 20 21), (0, u "com/example/cartomesh/cartomesh/model/RectIntersectsPinLaw"), (0, u "lo"), (0, u "(I)I"), (0, .methodref 17 23), (0, .nameAndType 24 21), (0, u "hi"), (0, .class_ 26), (0, u "com/example/cartomesh/cartomesh/model/Rect"), (0, .methodref 25 28), (0, .nameAndType 5 29), (0, u "(DDDD)V"), (0, .methodref 25 31), (0, .nameAndType 32 33), (0, u "intersects"), (0, u "(Lcom/example/cartomesh/cartomesh/model/Rect;)Z"), (2, u "law"), (0, u "(IIII)Z")] 3

def k1m0 : Method := { name := "<init>", desc := "()V", sig := { parameters := [], returnType := none }, accessFlags := 1, code := none }
def k1c1 : Code := { maxStack := 3, maxLocals := 1, code := method_2_code, exceptionTable := #[], attributes := #[] }
def k1m1 : Method := { name := "lo", desc := "(I)I", sig := { parameters := [.int], returnType := some .int }, accessFlags := 10, code := some k1c1 }
def k1c2 : Code := { maxStack := 3, maxLocals := 1, code := method_3_code, exceptionTable := #[], attributes := #[] }
def k1m2 : Method := { name := "hi", desc := "(I)I", sig := { parameters := [.int], returnType := some .int }, accessFlags := 10, code := some k1c2 }
def k1c3 : Code := { maxStack := 10, maxLocals := 17, code := code, exceptionTable := #[], attributes := #[] }
def k1m3 : Method := { name := "law", desc := "(IIII)Z", sig := { parameters := [.int, .int, .int, .int], returnType := some .boolean }, accessFlags := 9, code := some k1c3 }
/-- com/example/cartomesh/cartomesh/model/RectIntersectsPinLaw -/
def k1 : Class := { plain "com/example/cartomesh/cartomesh/model/RectIntersectsPinLaw" (some 0) with
  accessFlags := 49
  interfaces := #[]
  cf := some (fileOf pool1 17 #[] #[{ accessFlags := 1, nameIndex := 5, descriptorIndex := 6, attributes := #[] }, { accessFlags := 10, nameIndex := 20, descriptorIndex := 21, attributes := #[] }, { accessFlags := 10, nameIndex := 24, descriptorIndex := 21, attributes := #[] }, { accessFlags := 9, nameIndex := 36, descriptorIndex := 37, attributes := #[] }] 49 2 #[] #[])
  fields := #[]
  methods := #[k1m0, k1m1, k1m2, k1m3]
  instanceTypes := #[]
  staticTypes := #[]
  resolved := Array.replicate 41 none
  statics := none }

def pool2 : Array CpInfo := pool [(1, .class_ 2), (0, u "java/lang/Math"), (1, .class_ 6), (1, u "java/lang/Object"), (0, u "<init>"), (0, u "()V"), (89, .class_ 100), (1, u "java/lang/Math$RandomNumberGeneratorHolder"), (71, u "negativeZeroFloatBits"), (0, u "J"), (2, u "negativeZeroDoubleBits"), (21, u "max"), (2, u "min"), (43, u "$assertionsDisabled"), (0, u "Z"), (88, u "(II)I"), (2, u "twoToTheDoubleScaleDown"), (0, u "D"), (4, u "twoToTheDoubleScaleUp"), (9, u "E"), (3, u "PI"), (2, u "TAU"), (2, u "DEGREES_TO_RADIANS"), (0, u "RADIANS_TO_DEGREES")] 94

def k2m0 : Method := { name := "<init>", desc := "()V", sig := { parameters := [], returnType := none }, accessFlags := 2, code := none }
def k2c1 : Code := { maxStack := 2, maxLocals := 2, code := jdk_29_method_65_code, exceptionTable := #[], attributes := #[] }
def k2m1 : Method := { name := "max", desc := "(II)I", sig := { parameters := [.int, .int], returnType := some .int }, accessFlags := 9, code := some k2c1 }
def k2c2 : Code := { maxStack := 2, maxLocals := 2, code := jdk_29_method_69_code, exceptionTable := #[], attributes := #[] }
def k2m2 : Method := { name := "min", desc := "(II)I", sig := { parameters := [.int, .int], returnType := some .int }, accessFlags := 9, code := some k2c2 }
/-- java/lang/Math -/
def k2 : Class := { plain "java/lang/Math" (some 0) with
  accessFlags := 49
  interfaces := #[]
  cf := some (fileOf pool2 1 #[.nestMembers #[98]] #[{ accessFlags := 2, nameIndex := 7, descriptorIndex := 8, attributes := #[] }, { accessFlags := 9, nameIndex := 198, descriptorIndex := 335, attributes := #[] }, { accessFlags := 9, nameIndex := 201, descriptorIndex := 335, attributes := #[] }] 49 4 #[] #[{ accessFlags := 25, nameIndex := 354, descriptorIndex := 339, attributes := #[] }, { accessFlags := 25, nameIndex := 358, descriptorIndex := 339, attributes := #[] }, { accessFlags := 25, nameIndex := 361, descriptorIndex := 339, attributes := #[] }, { accessFlags := 26, nameIndex := 364, descriptorIndex := 339, attributes := #[] }, { accessFlags := 26, nameIndex := 365, descriptorIndex := 339, attributes := #[] }, { accessFlags := 26, nameIndex := 172, descriptorIndex := 173, attributes := #[] }, { accessFlags := 26, nameIndex := 176, descriptorIndex := 173, attributes := #[] }, { accessFlags := 8, nameIndex := 344, descriptorIndex := 339, attributes := #[] }, { accessFlags := 8, nameIndex := 338, descriptorIndex := 339, attributes := #[] }, { accessFlags := 4120, nameIndex := 245, descriptorIndex := 246, attributes := #[] }])
  fields := #[{ name := "E", type := .double, accessFlags := 25, slot := 0, constantValue := 0 }, { name := "PI", type := .double, accessFlags := 25, slot := 1, constantValue := 0 }, { name := "TAU", type := .double, accessFlags := 25, slot := 2, constantValue := 0 }, { name := "DEGREES_TO_RADIANS", type := .double, accessFlags := 26, slot := 3, constantValue := 0 }, { name := "RADIANS_TO_DEGREES", type := .double, accessFlags := 26, slot := 4, constantValue := 0 }, { name := "negativeZeroFloatBits", type := .long, accessFlags := 26, slot := 5, constantValue := 0 }, { name := "negativeZeroDoubleBits", type := .long, accessFlags := 26, slot := 6, constantValue := 0 }, { name := "twoToTheDoubleScaleUp", type := .double, accessFlags := 8, slot := 7, constantValue := 0 }, { name := "twoToTheDoubleScaleDown", type := .double, accessFlags := 8, slot := 8, constantValue := 0 }, { name := "$assertionsDisabled", type := .boolean, accessFlags := 4120, slot := 9, constantValue := 0 }]
  methods := #[k2m0, k2m1, k2m2]
  instanceTypes := #[]
  staticTypes := #[.double, .double, .double, .double, .double, .long, .long, .double, .double, .boolean]
  resolved := Array.replicate 460 none
  statics := none }

def pool3 : Array CpInfo := pool [(1, .methodref 2 3), (0, .class_ 4), (0, .nameAndType 5 6), (0, u "java/lang/Object"), (0, u "<init>"), (0, u "()V"), (0, .class_ 8), (0, u "java/lang/Record")] 13

def k3c0 : Code := { maxStack := 1, maxLocals := 1, code := jdk_30_method_1_code, exceptionTable := #[], attributes := #[] }
def k3m0 : Method := { name := "<init>", desc := "()V", sig := { parameters := [], returnType := none }, accessFlags := 4, code := some k3c0 }
/-- java/lang/Record -/
def k3 : Class := { plain "java/lang/Record" (some 0) with
  accessFlags := 1057
  interfaces := #[]
  cf := some (fileOf pool3 7 #[] #[{ accessFlags := 4, nameIndex := 5, descriptorIndex := 6, attributes := #[] }] 1057 2 #[] #[])
  fields := #[]
  methods := #[k3m0]
  instanceTypes := #[]
  staticTypes := #[]
  resolved := Array.replicate 22 none
  statics := none }

def pool4 : Array CpInfo := pool [(1, .methodref 2 3), (0, .class_ 4), (0, .nameAndType 5 6), (0, u "java/lang/Record"), (0, u "<init>"), (0, u "()V"), (0, .fieldref 8 9), (0, .class_ 10), (0, .nameAndType 11 12), (0, u "com/example/cartomesh/cartomesh/model/Rect"), (0, u "minX"), (0, u "D"), (0, .fieldref 8 14), (0, .nameAndType 15 12), (0, u "minY"), (0, .fieldref 8 17), (0, .nameAndType 18 12), (0, u "maxX"), (0, .fieldref 8 20), (0, .nameAndType 21 12), (0, u "maxY"), (26, u "(DDDD)V"), (22, u "(Lcom/example/cartomesh/cartomesh/model/Rect;)Z"), (4, u "intersects")] 25

def k4c0 : Code := { maxStack := 3, maxLocals := 9, code := prog_14_method_1_code, exceptionTable := #[], attributes := #[] }
def k4m0 : Method := { name := "<init>", desc := "(DDDD)V", sig := { parameters := [.double, .double, .double, .double], returnType := none }, accessFlags := 1, code := some k4c0 }
def k4c1 : Code := { maxStack := 4, maxLocals := 2, code := prog_14_method_10_code, exceptionTable := #[], attributes := #[] }
def k4m1 : Method := { name := "intersects", desc := "(Lcom/example/cartomesh/cartomesh/model/Rect;)Z", sig := { parameters := [(.object "com/example/cartomesh/cartomesh/model/Rect")], returnType := some .boolean }, accessFlags := 1, code := some k4c1 }
/-- com/example/cartomesh/cartomesh/model/Rect -/
def k4 : Class := { plain "com/example/cartomesh/cartomesh/model/Rect" (some 3) with
  accessFlags := 49
  interfaces := #[]
  cf := some (fileOf pool4 8 #[] #[{ accessFlags := 1, nameIndex := 5, descriptorIndex := 48, attributes := #[] }, { accessFlags := 1, nameIndex := 76, descriptorIndex := 71, attributes := #[] }] 49 2 #[] #[{ accessFlags := 18, nameIndex := 11, descriptorIndex := 12, attributes := #[] }, { accessFlags := 18, nameIndex := 15, descriptorIndex := 12, attributes := #[] }, { accessFlags := 18, nameIndex := 18, descriptorIndex := 12, attributes := #[] }, { accessFlags := 18, nameIndex := 21, descriptorIndex := 12, attributes := #[] }])
  fields := #[{ name := "minX", type := .double, accessFlags := 18, slot := 0, constantValue := 0 }, { name := "minY", type := .double, accessFlags := 18, slot := 1, constantValue := 0 }, { name := "maxX", type := .double, accessFlags := 18, slot := 2, constantValue := 0 }, { name := "maxY", type := .double, accessFlags := 18, slot := 3, constantValue := 0 }]
  methods := #[k4m0, k4m1]
  instanceTypes := #[.double, .double, .double, .double]
  staticTypes := #[]
  resolved := Array.replicate 102 none
  statics := none }

def pool5 : Array CpInfo := pool [(1, u "java/lang/Cloneable"), (0, .class_ 1), (0, u "java/lang/Object"), (0, .class_ 3)] 3

/-- java/lang/Cloneable -/
def k5 : Class := { plain "java/lang/Cloneable" (some 0) with
  accessFlags := 1537
  interfaces := #[]
  cf := some (fileOf pool5 2 #[] #[] 1537 4 #[] #[])
  fields := #[]
  methods := #[]
  instanceTypes := #[]
  staticTypes := #[]
  resolved := Array.replicate 8 none
  statics := none }

def pool6 : Array CpInfo := pool [(1, u "java/io/Serializable"), (0, .class_ 1), (0, u "java/lang/Object"), (0, .class_ 3)] 3

/-- java/io/Serializable -/
def k6 : Class := { plain "java/io/Serializable" (some 0) with
  accessFlags := 1537
  interfaces := #[]
  cf := some (fileOf pool6 2 #[] #[] 1537 4 #[] #[])
  fields := #[]
  methods := #[]
  instanceTypes := #[]
  staticTypes := #[]
  resolved := Array.replicate 8 none
  statics := none }

/-- the primitive byte -/
def k7 : Class := { plain "byte" none with kind := .primitive 'B', accessFlags := 0x411 }
/-- [B -/
def k8 : Class := { plain "[B" (some 0) with kind := .array 7 .byte, interfaces := #[5, 6], accessFlags := 1041 }

/-- the primitive int -/
def k9 : Class := { plain "int" none with kind := .primitive 'I', accessFlags := 0x411 }
/-- [I -/
def k10 : Class := { plain "[I" (some 0) with kind := .array 9 .int, interfaces := #[5, 6], accessFlags := 1041 }

def heap : Heap := #[]
def classes : Array Class := #[k0, k1, k2, k3, k4, k5, k6, k7, k8, k9, k10]
def interned : List (Array UInt16 × Addr) := []
def slotsUsed : Nat := 0
def theMethod : MethodId := ⟨1, 3⟩
def args0 : Array Value := #[.int 5, .int 5, .int 5, .int 5]
def aboutOver (below : List Frame) : State where
  vm := { classes := classes, interned := interned.toArray }
  heap := heap
  slotsUsed := slotsUsed
  threads := #[{ frames := .invoking theMethod args0 :: below }]
def below0 : List Frame := [.native { method := ⟨0, 0⟩, args := #[] }]
def about1 : State := aboutOver below0
def p0 : Program := .bare "" "" ""
def e0 : Env := launch0.env 0 0 0
theorem w_frames : about1.frames = Frame.invoking theMethod args0 :: below0 := rfl
set_option maxRecDepth 65536 in
theorem w_args : argsFit about1.vm theMethod args0 = true := by decide +kernel
set_option maxRecDepth 65536 in
theorem w_heap : heapFits about1 = true := by decide +kernel
set_option maxRecDepth 65536 in
theorem w_runnable : about1.curStatus? = some .runnable := by decide +kernel
set_option maxRecDepth 65536 in
theorem w_alone : about1.alone = true := by decide +kernel
set_option maxRecDepth 65536 in
theorem w_named : about1.methodNamed? x = some theMethod := by decide +kernel
set_option maxRecDepth 65536 in
theorem w_hears : about1.hears theMethod below0 = true := by decide +kernel
set_option maxRecDepth 65536 in
theorem w_ripe : about1.ripe theMethod args0 below0 = true := by decide +kernel
theorem w_running : about1.status = .running := rfl
set_option maxRecDepth 65536 in
theorem w_room : about1.hasRoom e0.platform room_1 = true :=
  launch0.hasRoom_least _ room_1 (by decide +kernel) (by decide +kernel) (by decide +kernel) (by decide +kernel) (by decide +kernel) (by decide +kernel)
theorem allAtoms_all (ts : List Jvm.Cond) (a : Array Jvm.Value) (st : Jvm.State) : (allAtoms ts).before a st = ts.all (fun c => c.before a st) := by
  induction ts with
  | nil => rfl
  | cons c t ih =>
    show (Jvm.Cond.and c (allAtoms t)).before a st = _
    rw [Jvm.Cond.before_and, ih, List.all_cons]
def words1 : List Jvm.Cond := Jvm.Cond.code x code maxLocals ret :: tables_1
/-- a 'code' word, met by the world's own term for the bytes: nothing is compared byte by byte -/
theorem code_word {y : MethodName} {bytes : ByteArray} {mx : Nat} {rt : Option FieldType} {a : Array Value} {s : State} {m : MethodId} {meth : Method} {c : Code} (h1 : s.methodNamed? y = some m) (h2 : s.vm.method? m = some meth) (h3 : meth.code = some c) (h4 : c.code = bytes)
    (h5 : (c.maxLocals == mx && c.exceptionTable.isEmpty && decide (c.maxStack ≤ mostOperands) && decide (meth.sig.returnType = rt) && !meth.locks && decide (parseMethodDescriptor y.desc = some meth.sig)) = true) : (Jvm.Cond.code y bytes mx rt).before a s = true := by
  simp only [Bool.and_eq_true, beq_iff_eq, Bool.not_eq_true', decide_eq_true_eq] at h5
  obtain ⟨⟨⟨⟨⟨g1, g2⟩, g3⟩, g4⟩, g5⟩, g6⟩ := h5
  simp [Cond.before, Cond.holds, Cond.value, h1, h2, h3, h4, g1, g2, g3, g4, g5, g6]
def isCode : Jvm.Cond → Bool
  | .code _ _ _ _ => true
  | _ => false
theorem all_split {L : List Jvm.Cond} {P : Jvm.Cond → Bool} (h1 : L.all (fun c => isCode c || P c) = true) (h2 : ∀ c ∈ L.filter isCode, P c = true) : L.all P = true := by
  refine List.all_eq_true.mpr fun c hc => ?_
  have h := List.all_eq_true.mp h1 c hc
  rcases Bool.eq_false_or_eq_true (isCode c) with hi | hi
  · exact h2 c (List.mem_filter.mpr ⟨hc, hi⟩)
  · simpa [hi] using h
set_option maxRecDepth 65536 in
theorem w_c0 : (Jvm.Cond.code x code maxLocals ret).before args0 about1 = true := code_word (m := ⟨1, 3⟩) (meth := k1m3) (c := k1c3) (by decide +kernel) rfl rfl rfl (by decide +kernel)
set_option maxRecDepth 65536 in
theorem w_c1 : (Jvm.Cond.code ({ cls := "com/example/cartomesh/cartomesh/model/RectIntersectsPinLaw", name := "lo", desc := "(I)I" } : Jvm.MethodName) method_2_code (1 : Nat) (Option.some Jvm.ClassFile.FieldType.int)).before args0 about1 = true := code_word (m := ⟨1, 1⟩) (meth := k1m1) (c := k1c1) (by decide +kernel) rfl rfl rfl (by decide +kernel)
set_option maxRecDepth 65536 in
theorem w_c2 : (Jvm.Cond.code ({ cls := "java/lang/Math", name := "min", desc := "(II)I" } : Jvm.MethodName) jdk_29_method_69_code (2 : Nat) (Option.some Jvm.ClassFile.FieldType.int)).before args0 about1 = true := code_word (m := ⟨2, 2⟩) (meth := k2m2) (c := k2c2) (by decide +kernel) rfl rfl rfl (by decide +kernel)
set_option maxRecDepth 65536 in
theorem w_c3 : (Jvm.Cond.code ({ cls := "com/example/cartomesh/cartomesh/model/RectIntersectsPinLaw", name := "hi", desc := "(I)I" } : Jvm.MethodName) method_3_code (1 : Nat) (Option.some Jvm.ClassFile.FieldType.int)).before args0 about1 = true := code_word (m := ⟨1, 2⟩) (meth := k1m2) (c := k1c2) (by decide +kernel) rfl rfl rfl (by decide +kernel)
set_option maxRecDepth 65536 in
theorem w_c4 : (Jvm.Cond.code ({ cls := "java/lang/Math", name := "max", desc := "(II)I" } : Jvm.MethodName) jdk_29_method_65_code (2 : Nat) (Option.some Jvm.ClassFile.FieldType.int)).before args0 about1 = true := code_word (m := ⟨2, 1⟩) (meth := k2m1) (c := k2c1) (by decide +kernel) rfl rfl rfl (by decide +kernel)
set_option maxRecDepth 65536 in
theorem w_c5 : (Jvm.Cond.code ({ cls := "com/example/cartomesh/cartomesh/model/Rect", name := "<init>", desc := "(DDDD)V" } : Jvm.MethodName) prog_14_method_1_code (9 : Nat) (Option.none : Option Jvm.ClassFile.FieldType)).before args0 about1 = true := code_word (m := ⟨4, 0⟩) (meth := k4m0) (c := k4c0) (by decide +kernel) rfl rfl rfl (by decide +kernel)
set_option maxRecDepth 65536 in
theorem w_c6 : (Jvm.Cond.code ({ cls := "java/lang/Record", name := "<init>", desc := "()V" } : Jvm.MethodName) jdk_30_method_1_code (1 : Nat) (Option.none : Option Jvm.ClassFile.FieldType)).before args0 about1 = true := code_word (m := ⟨3, 0⟩) (meth := k3m0) (c := k3c0) (by decide +kernel) rfl rfl rfl (by decide +kernel)
set_option maxRecDepth 65536 in
theorem w_c7 : (Jvm.Cond.code ({ cls := "java/lang/Object", name := "<init>", desc := "()V" } : Jvm.MethodName) object_method_1_code (1 : Nat) (Option.none : Option Jvm.ClassFile.FieldType)).before args0 about1 = true := code_word (m := ⟨0, 0⟩) (meth := k0m0) (c := k0c0) (by decide +kernel) rfl rfl rfl (by decide +kernel)
set_option maxRecDepth 65536 in
theorem w_c8 : (Jvm.Cond.code ({ cls := "com/example/cartomesh/cartomesh/model/Rect", name := "intersects", desc := "(Lcom/example/cartomesh/cartomesh/model/Rect;)Z" } : Jvm.MethodName) prog_14_method_10_code (2 : Nat) (Option.some Jvm.ClassFile.FieldType.boolean)).before args0 about1 = true := code_word (m := ⟨4, 1⟩) (meth := k4m1) (c := k4c1) (by decide +kernel) rfl rfl rfl (by decide +kernel)
def codes1 : List Jvm.Cond := [Jvm.Cond.code x code maxLocals ret, Jvm.Cond.code ({ cls := "com/example/cartomesh/cartomesh/model/RectIntersectsPinLaw", name := "lo", desc := "(I)I" } : Jvm.MethodName) method_2_code (1 : Nat) (Option.some Jvm.ClassFile.FieldType.int), Jvm.Cond.code ({ cls := "java/lang/Math", name := "min", desc := "(II)I" } : Jvm.MethodName) jdk_29_method_69_code (2 : Nat) (Option.some Jvm.ClassFile.FieldType.int), Jvm.Cond.code ({ cls := "com/example/cartomesh/cartomesh/model/RectIntersectsPinLaw", name := "hi", desc := "(I)I" } : Jvm.MethodName) method_3_code (1 : Nat) (Option.some Jvm.ClassFile.FieldType.int), Jvm.Cond.code ({ cls := "java/lang/Math", name := "max", desc := "(II)I" } : Jvm.MethodName) jdk_29_method_65_code (2 : Nat) (Option.some Jvm.ClassFile.FieldType.int), Jvm.Cond.code ({ cls := "com/example/cartomesh/cartomesh/model/Rect", name := "<init>", desc := "(DDDD)V" } : Jvm.MethodName) prog_14_method_1_code (9 : Nat) (Option.none : Option Jvm.ClassFile.FieldType), Jvm.Cond.code ({ cls := "java/lang/Record", name := "<init>", desc := "()V" } : Jvm.MethodName) jdk_30_method_1_code (1 : Nat) (Option.none : Option Jvm.ClassFile.FieldType), Jvm.Cond.code ({ cls := "java/lang/Object", name := "<init>", desc := "()V" } : Jvm.MethodName) object_method_1_code (1 : Nat) (Option.none : Option Jvm.ClassFile.FieldType), Jvm.Cond.code ({ cls := "com/example/cartomesh/cartomesh/model/Rect", name := "intersects", desc := "(Lcom/example/cartomesh/cartomesh/model/Rect;)Z" } : Jvm.MethodName) prog_14_method_10_code (2 : Nat) (Option.some Jvm.ClassFile.FieldType.boolean)]
set_option maxRecDepth 65536 in
theorem codes_eq : words1.filter isCode = codes1 := rfl
theorem w_codes : ∀ c ∈ words1.filter isCode, c.before args0 about1 = true := by
  rw [codes_eq]
  intro c hc
  simp only [codes1, List.mem_cons, List.not_mem_nil, or_false] at hc
  rcases hc with rfl | rfl | rfl | rfl | rfl | rfl | rfl | rfl | rfl
  · exact w_c0
  · exact w_c1
  · exact w_c2
  · exact w_c3
  · exact w_c4
  · exact w_c5
  · exact w_c6
  · exact w_c7
  · exact w_c8
set_option maxRecDepth 65536 in
theorem w_t1 : (words1.take 24).all (fun c => isCode c || c.before args0 about1) = true := by decide +kernel
set_option maxRecDepth 65536 in
theorem w_t2 : (words1.drop 24).all (fun c => isCode c || c.before args0 about1) = true := by decide +kernel
theorem w_tables : (allAtoms (Jvm.Cond.code x code maxLocals ret :: tables_1)).before args0 about1 = true := by
  rw [allAtoms_all]
  show words1.all (fun c => c.before args0 about1) = true
  refine all_split ?_ w_codes
  rw [← List.take_append_drop 24 words1, List.all_append, w_t1, w_t2]
  rfl
set_option maxRecDepth 65536 in
theorem w_case : (Jvm.Cond.and given_1 narrow_1).before args0 about1 = true := by decide +kernel
theorem w_applies : (headSpec (Jvm.Cond.code x code maxLocals ret :: tables_1) room_1).applies x e0.platform about1 = true :=
  (Spec.applies_iff w_frames).mpr ⟨w_running, w_runnable, w_alone, w_named, w_hears, w_ripe, w_room, w_tables⟩
theorem atStart : AtStart classFile x code maxLocals ret World_1 tables_1 room_1 Calls_1 rest_1 Pre_1 launch0 p0 e0 about1 theMethod args0 below0 :=
  ⟨lists_1, trivial, launch0.admits_env _ _ _, launch0.least_env, fairChoices_fair.cas, fairChoices_fair.clock, w_frames, w_args, w_heap, w_applies, trivial, trivial, w_case⟩
end start1
theorem witness_1 : WitnessClaimed_1 := ⟨start1.p0, start1.e0, start1.about1, start1.theMethod, start1.args0, start1.below0, start1.atStart⟩
end Jvm.Pilot.@@N@@
