import JvmDerived
import JvmDerived.Pilot.@@N@@Statement
import JvmDerived.Pilot.@@N@@Code
set_option linter.unusedVariables false
set_option linter.unusedSimpArgs false

namespace Jvm.Pilot.@@N@@
open Jvm Jvm.ClassFile Sem Op Lib Jvm.Free Jvm.Stand Jvm.LawKit Jvm.RoadKit Bundle Jvm.Pilot.@@N@@.Jvm.D
section Kit
variable {p : Program} {l : Launch} {e : Env} {R : Room} {s : State} {m : MethodId} {args : Array Value} {below : List Frame} {meth : Method} {c : Code} {T : State} {locs : List Loc} {cells slots : Nat} {Z : State} {a0 : Array Value} {bc : ByteArray} {ml : Nat} {own nm : String} {rt : Option FieldType} {Q : Option Value → Heap → List Loc → Prop} {kC kS pc pc' : Nat} {Ls : Array Slot} {S : List Value} {h : Heap}
def Dec (b : ByteArray) (pc : Nat) (i : Instr) (n pc' : Nat) : Prop := decode b pc = .ok (i, n) ∧ pc' = pc + n
def DecJ (b : ByteArray) (pc : Nat) (i : Instr) (o : Int) (tgt nxt : Nat) : Prop := decode b pc = .ok (i, 3) ∧ 0 ≤ (pc : Int) + o ∧ ((pc : Int) + o).toNat = tgt ∧ nxt = pc + 3
def Cur (p : Program) (l : Launch) (e : Env) (s : State) (m : MethodId) (meth : Method) (c : Code) (Z : State) (bc : ByteArray) (ml : Nat) (own nm : String) (rt : Option FieldType) : Prop :=
  p.tables.exec = Jvm.exec ∧ Z.Warmed39 s.vm ∧ c.code = bc ∧ c.maxLocals = ml ∧ s.vm.findClass own = some m.cls ∧ meth.sig.returnType = rt ∧ meth.locks = false ∧ meth.name = nm
def Go (p : Program) (e : Env) (below : List Frame) (s : State) (Q : Option Value → Heap → List Loc → Prop) (kC kS : Nat) (T : State) (f : JFrame) : Prop :=
  ∃ s₂ o, Steps p.tables e below (T.setTop f) s₂ ∧ s₂.status = .running ∧ Ended s₂ below o ∧ ∃ v L, o = .returned v ∧ Q v s₂.heap L ∧ FrameEnd s o s₂ L kC kS
theorem Go.step {T T' : State} {f f' : JFrame} (st : ∀ t, Steps p.tables e below (T'.setTop f') t → Steps p.tables e below (T.setTop f) t) (g : Go p e below s Q kC kS T' f') : Go p e below s Q kC kS T f := by
  obtain ⟨s₂, o, h1, r⟩ := g; exact ⟨s₂, o, st _ h1, r⟩
theorem Go.cast {f f' : JFrame} (q : f = f') (g : Go p e below s Q kC kS T f') : Go p e below s Q kC kS T f := q ▸ g
theorem met_of {y : MethodName} {rm : Room} {as' : Array Value} {h0 : Heap} {ws : List Jvm.Cond} {bytes : ByteArray} {maxL : Nat} {ret : Option FieldType} (hpl : plainFor y = true)
    (body : ∀ {p : Program} {e : Env} {s : State} {m : MethodId} {below : List Frame} {meth : Method} {c : Code} {T : State}, Cur p l e s m meth c Z bytes maxL y.cls y.name ret → Stand p l e rm s m as' below meth c T [] 0 0 → T.heap = h0 → Go p e below s Q rm.cells rm.slots T (entryFrame m as' maxL)) :
    MetFree l y (head1 (Jvm.Cond.code y bytes maxL ret :: ws) rm) (fun a U => a = as' ∧ Z.Warmed39 U.vm ∧ U.heap = h0) (fun _ _ _ _ _ => True) (fun _ U o U' => ∃ v L, o = .returned v ∧ Q v U'.heap L ∧ FrameEnd U o U' L rm.cells rm.slots) := by
  refine MetFree.of_bodySF hpl hisR ?_
  intro p e s m args below meth c s₁ Bd hml0 hP hK
  obtain ⟨rfl, hZ, hh⟩ := hP
  exact body ⟨Bd.exec, hZ, Bd.bytes, hml0, findClass_of_methodNamed Bd.named, Bd.returns, Bd.notSynchronized, (name_of_methodNamed Bd.named Bd.method).1⟩ (Stand.of_body Bd) (by rw [← hh, Bd.state]; rfl)
theorem wiloadN (C : Cur p l e s m meth c Z bc ml own nm rt) (X : Stand p l e R s m args below meth c T locs cells slots) {k : Fin 4} {v : Int32} (hd : Dec bc pc (.iload_n k) 1 pc') (hl : Ls[k.val]? = some (.val (.int v))) (g : Go p e below s Q kC kS T (mkF m pc' Ls (.int v :: S))) : Go p e below s Q kC kS T (mkF m pc Ls S) :=
  Go.step (fun _ k => XS.iloadN X.here C.1 rfl (hb C.2.2.1 hd.1) hl k) (by rw [hd.2] at g; exact g)
theorem wiload (C : Cur p l e s m meth c Z bc ml own nm rt) (X : Stand p l e R s m args below meth c T locs cells slots) {k : Nat} {v : Int32} (hd : Dec bc pc (.iload k) 2 pc') (hl : Ls[k]? = some (.val (.int v))) (g : Go p e below s Q kC kS T (mkF m pc' Ls (.int v :: S))) : Go p e below s Q kC kS T (mkF m pc Ls S) :=
  Go.step (fun _ k => XS.iload X.here C.1 rfl (hb C.2.2.1 hd.1) hl k) (by rw [hd.2] at g; exact g)
theorem wistoreN (C : Cur p l e s m meth c Z bc ml own nm rt) (X : Stand p l e R s m args below meth c T locs cells slots) {k : Fin 4} {v : Int32} (hd : Dec bc pc (.istore_n k) 1 pc') (l' : Array Slot) (hl : storeLocals Ls k.val (.int v) = some l') (g : Go p e below s Q kC kS T (mkF m pc' l' S)) : Go p e below s Q kC kS T (mkF m pc Ls (.int v :: S)) :=
  Go.step (fun _ k => XS.istoreN X.here C.1 rfl (hb C.2.2.1 hd.1) rfl hl k) (by rw [hd.2] at g; exact g)
theorem wistore (C : Cur p l e s m meth c Z bc ml own nm rt) (X : Stand p l e R s m args below meth c T locs cells slots) {k : Nat} {v : Int32} (hd : Dec bc pc (.istore k) 2 pc') (l' : Array Slot) (hl : storeLocals Ls k (.int v) = some l') (g : Go p e below s Q kC kS T (mkF m pc' l' S)) : Go p e below s Q kC kS T (mkF m pc Ls (.int v :: S)) :=
  Go.step (fun _ k => XS.istore X.here C.1 rfl (hb C.2.2.1 hd.1) rfl hl k) (by rw [hd.2] at g; exact g)
theorem wlloadN (C : Cur p l e s m meth c Z bc ml own nm rt) (X : Stand p l e R s m args below meth c T locs cells slots) {k : Fin 4} {v : Int64} (hd : Dec bc pc (.lload_n k) 1 pc') (hl : Ls[k.val]? = some (.val (.long v))) (g : Go p e below s Q kC kS T (mkF m pc' Ls (.long v :: S))) : Go p e below s Q kC kS T (mkF m pc Ls S) :=
  Go.step (fun _ k => XS.lloadN X.here C.1 rfl (hb C.2.2.1 hd.1) hl k) (by rw [hd.2] at g; exact g)
theorem wlload (C : Cur p l e s m meth c Z bc ml own nm rt) (X : Stand p l e R s m args below meth c T locs cells slots) {k : Nat} {v : Int64} (hd : Dec bc pc (.lload k) 2 pc') (hl : Ls[k]? = some (.val (.long v))) (g : Go p e below s Q kC kS T (mkF m pc' Ls (.long v :: S))) : Go p e below s Q kC kS T (mkF m pc Ls S) :=
  Go.step (fun _ k => XS.lload X.here C.1 rfl (hb C.2.2.1 hd.1) hl k) (by rw [hd.2] at g; exact g)
theorem wlstoreN (C : Cur p l e s m meth c Z bc ml own nm rt) (X : Stand p l e R s m args below meth c T locs cells slots) {k : Fin 4} {v : Int64} (hd : Dec bc pc (.lstore_n k) 1 pc') (l' : Array Slot) (hl : storeLocals Ls k.val (.long v) = some l') (g : Go p e below s Q kC kS T (mkF m pc' l' S)) : Go p e below s Q kC kS T (mkF m pc Ls (.long v :: S)) :=
  Go.step (fun _ k => XS.lstoreN X.here C.1 rfl (hb C.2.2.1 hd.1) rfl hl k) (by rw [hd.2] at g; exact g)
theorem wlstore (C : Cur p l e s m meth c Z bc ml own nm rt) (X : Stand p l e R s m args below meth c T locs cells slots) {k : Nat} {v : Int64} (hd : Dec bc pc (.lstore k) 2 pc') (l' : Array Slot) (hl : storeLocals Ls k (.long v) = some l') (g : Go p e below s Q kC kS T (mkF m pc' l' S)) : Go p e below s Q kC kS T (mkF m pc Ls (.long v :: S)) :=
  Go.step (fun _ k => XS.lstore X.here C.1 rfl (hb C.2.2.1 hd.1) rfl hl k) (by rw [hd.2] at g; exact g)
theorem wdloadN (C : Cur p l e s m meth c Z bc ml own nm rt) (X : Stand p l e R s m args below meth c T locs cells slots) {k : Fin 4} {v : UInt64} (hd : Dec bc pc (.dload_n k) 1 pc') (hl : Ls[k.val]? = some (.val (.double v))) (g : Go p e below s Q kC kS T (mkF m pc' Ls (.double v :: S))) : Go p e below s Q kC kS T (mkF m pc Ls S) :=
  Go.step (fun _ k => XS.dloadN X.here C.1 rfl (hb C.2.2.1 hd.1) hl k) (by rw [hd.2] at g; exact g)
theorem wdload (C : Cur p l e s m meth c Z bc ml own nm rt) (X : Stand p l e R s m args below meth c T locs cells slots) {k : Nat} {v : UInt64} (hd : Dec bc pc (.dload k) 2 pc') (hl : Ls[k]? = some (.val (.double v))) (g : Go p e below s Q kC kS T (mkF m pc' Ls (.double v :: S))) : Go p e below s Q kC kS T (mkF m pc Ls S) :=
  Go.step (fun _ k => XS.dload X.here C.1 rfl (hb C.2.2.1 hd.1) hl k) (by rw [hd.2] at g; exact g)
theorem wdstoreN (C : Cur p l e s m meth c Z bc ml own nm rt) (X : Stand p l e R s m args below meth c T locs cells slots) {k : Fin 4} {v : UInt64} (hd : Dec bc pc (.dstore_n k) 1 pc') (l' : Array Slot) (hl : storeLocals Ls k.val (.double v) = some l') (g : Go p e below s Q kC kS T (mkF m pc' l' S)) : Go p e below s Q kC kS T (mkF m pc Ls (.double v :: S)) :=
  Go.step (fun _ k => XS.dstoreN X.here C.1 rfl (hb C.2.2.1 hd.1) rfl hl k) (by rw [hd.2] at g; exact g)
theorem wdstore (C : Cur p l e s m meth c Z bc ml own nm rt) (X : Stand p l e R s m args below meth c T locs cells slots) {k : Nat} {v : UInt64} (hd : Dec bc pc (.dstore k) 2 pc') (l' : Array Slot) (hl : storeLocals Ls k (.double v) = some l') (g : Go p e below s Q kC kS T (mkF m pc' l' S)) : Go p e below s Q kC kS T (mkF m pc Ls (.double v :: S)) :=
  Go.step (fun _ k => XS.dstore X.here C.1 rfl (hb C.2.2.1 hd.1) rfl hl k) (by rw [hd.2] at g; exact g)
theorem waloadN (C : Cur p l e s m meth c Z bc ml own nm rt) (X : Stand p l e R s m args below meth c T locs cells slots) {k : Fin 4} {v : Value} (hd : Dec bc pc (.aload_n k) 1 pc') (hl : Ls[k.val]? = some (.val v)) (hv : v.isRef = true) (g : Go p e below s Q kC kS T (mkF m pc' Ls (v :: S))) : Go p e below s Q kC kS T (mkF m pc Ls S) :=
  Go.step (fun _ k => XS.aloadN X.here C.1 rfl (hb C.2.2.1 hd.1) hl hv k) (by rw [hd.2] at g; exact g)
theorem waload (C : Cur p l e s m meth c Z bc ml own nm rt) (X : Stand p l e R s m args below meth c T locs cells slots) {k : Nat} {v : Value} (hd : Dec bc pc (.aload k) 2 pc') (hl : Ls[k]? = some (.val v)) (hv : v.isRef = true) (g : Go p e below s Q kC kS T (mkF m pc' Ls (v :: S))) : Go p e below s Q kC kS T (mkF m pc Ls S) :=
  Go.step (fun _ k => XS.aload X.here C.1 rfl (hb C.2.2.1 hd.1) hl hv k) (by rw [hd.2] at g; exact g)
theorem wastoreN (C : Cur p l e s m meth c Z bc ml own nm rt) (X : Stand p l e R s m args below meth c T locs cells slots) {k : Fin 4} {v : Value} (hd : Dec bc pc (.astore_n k) 1 pc') (l' : Array Slot) (hv : v.isRef = true) (hl : storeLocals Ls k.val v = some l') (g : Go p e below s Q kC kS T (mkF m pc' l' S)) : Go p e below s Q kC kS T (mkF m pc Ls (v :: S)) :=
  Go.step (fun _ k => XS.astoreN X.here C.1 rfl (hb C.2.2.1 hd.1) rfl hv hl k) (by rw [hd.2] at g; exact g)
theorem wastore (C : Cur p l e s m meth c Z bc ml own nm rt) (X : Stand p l e R s m args below meth c T locs cells slots) {k : Nat} {v : Value} (hd : Dec bc pc (.astore k) 2 pc') (l' : Array Slot) (hv : v.isRef = true) (hl : storeLocals Ls k v = some l') (g : Go p e below s Q kC kS T (mkF m pc' l' S)) : Go p e below s Q kC kS T (mkF m pc Ls (v :: S)) :=
  Go.step (fun _ k => XS.astore X.here C.1 rfl (hb C.2.2.1 hd.1) rfl hv hl k) (by rw [hd.2] at g; exact g)
theorem wiconst (C : Cur p l e s m meth c Z bc ml own nm rt) (X : Stand p l e R s m args below meth c T locs cells slots) {i : Int} (hd : Dec bc pc (.iconst i) 1 pc') (z : Int32) (hz : Int32.ofInt i = z) (g : Go p e below s Q kC kS T (mkF m pc' Ls (.int z :: S))) : Go p e below s Q kC kS T (mkF m pc Ls S) :=
  Go.step (fun _ k => XS.iconst X.here C.1 rfl (hb C.2.2.1 hd.1) (by rw [hz]; exact k)) (by rw [hd.2] at g; exact g)
theorem wbipush (C : Cur p l e s m meth c Z bc ml own nm rt) (X : Stand p l e R s m args below meth c T locs cells slots) {i : Int} (hd : Dec bc pc (.bipush i) 2 pc') (z : Int32) (hz : (Int8.ofInt i).toInt32 = z) (g : Go p e below s Q kC kS T (mkF m pc' Ls (.int z :: S))) : Go p e below s Q kC kS T (mkF m pc Ls S) :=
  Go.step (fun _ k => XS.bipush X.here C.1 rfl (hb C.2.2.1 hd.1) (by rw [hz]; exact k)) (by rw [hd.2] at g; exact g)
theorem wsipush (C : Cur p l e s m meth c Z bc ml own nm rt) (X : Stand p l e R s m args below meth c T locs cells slots) {i : Int} (hd : Dec bc pc (.sipush i) 3 pc') (z : Int32) (hz : (Int16.ofInt i).toInt32 = z) (g : Go p e below s Q kC kS T (mkF m pc' Ls (.int z :: S))) : Go p e below s Q kC kS T (mkF m pc Ls S) :=
  Go.step (fun _ k => XS.sipush X.here C.1 rfl (hb C.2.2.1 hd.1) (by rw [hz]; exact k)) (by rw [hd.2] at g; exact g)
theorem wlconst0 (C : Cur p l e s m meth c Z bc ml own nm rt) (X : Stand p l e R s m args below meth c T locs cells slots) (hd : Dec bc pc (.lconst 0) 1 pc') (g : Go p e below s Q kC kS T (mkF m pc' Ls (.long 0 :: S))) : Go p e below s Q kC kS T (mkF m pc Ls S) :=
  Go.step (fun _ k => XS.lconst X.here C.1 rfl (hb C.2.2.1 hd.1) k) (by rw [hd.2] at g; exact g)
theorem wlconst1 (C : Cur p l e s m meth c Z bc ml own nm rt) (X : Stand p l e R s m args below meth c T locs cells slots) (hd : Dec bc pc (.lconst 1) 1 pc') (g : Go p e below s Q kC kS T (mkF m pc' Ls (.long 1 :: S))) : Go p e below s Q kC kS T (mkF m pc Ls S) :=
  Go.step (fun _ k => XS.lconst X.here C.1 rfl (hb C.2.2.1 hd.1) k) (by rw [hd.2] at g; exact g)
theorem wdconst0 (C : Cur p l e s m meth c Z bc ml own nm rt) (X : Stand p l e R s m args below meth c T locs cells slots) (hd : Dec bc pc (.dconst 0) 1 pc') (g : Go p e below s Q kC kS T (mkF m pc' Ls (.double FP.dconst0 :: S))) : Go p e below s Q kC kS T (mkF m pc Ls S) :=
  Go.step (fun _ k => XS.dconst0 X.here C.1 rfl (hb C.2.2.1 hd.1) rfl k) (by rw [hd.2] at g; exact g)
theorem wdconst1 (C : Cur p l e s m meth c Z bc ml own nm rt) (X : Stand p l e R s m args below meth c T locs cells slots) (hd : Dec bc pc (.dconst 1) 1 pc') (g : Go p e below s Q kC kS T (mkF m pc' Ls (.double FP.dconst1 :: S))) : Go p e below s Q kC kS T (mkF m pc Ls S) :=
  Go.step (fun _ k => XS.dconst1 X.here C.1 rfl (hb C.2.2.1 hd.1) rfl k) (by rw [hd.2] at g; exact g)
theorem wnull (C : Cur p l e s m meth c Z bc ml own nm rt) (X : Stand p l e R s m args below meth c T locs cells slots) (hd : Dec bc pc (.aconst_null) 1 pc') (g : Go p e below s Q kC kS T (mkF m pc' Ls (.null :: S))) : Go p e below s Q kC kS T (mkF m pc Ls S) :=
  Go.step (fun _ k => XS.aconstNull X.here C.1 rfl (hb C.2.2.1 hd.1) k) (by rw [hd.2] at g; exact g)
theorem wiadd (C : Cur p l e s m meth c Z bc ml own nm rt) (X : Stand p l e R s m args below meth c T locs cells slots) {x y : Int32} (hd : Dec bc pc (.iadd) 1 pc') (g : Go p e below s Q kC kS T (mkF m pc' Ls (.int (x + y) :: S))) : Go p e below s Q kC kS T (mkF m pc Ls (.int y :: .int x :: S)) :=
  Go.step (fun _ k => XS.iadd X.here C.1 rfl (hb C.2.2.1 hd.1) rfl k) (by rw [hd.2] at g; exact g)
theorem wisub (C : Cur p l e s m meth c Z bc ml own nm rt) (X : Stand p l e R s m args below meth c T locs cells slots) {x y : Int32} (hd : Dec bc pc (.isub) 1 pc') (g : Go p e below s Q kC kS T (mkF m pc' Ls (.int (x - y) :: S))) : Go p e below s Q kC kS T (mkF m pc Ls (.int y :: .int x :: S)) :=
  Go.step (fun _ k => XS.isub X.here C.1 rfl (hb C.2.2.1 hd.1) rfl k) (by rw [hd.2] at g; exact g)
theorem wimul (C : Cur p l e s m meth c Z bc ml own nm rt) (X : Stand p l e R s m args below meth c T locs cells slots) {x y : Int32} (hd : Dec bc pc (.imul) 1 pc') (g : Go p e below s Q kC kS T (mkF m pc' Ls (.int (x * y) :: S))) : Go p e below s Q kC kS T (mkF m pc Ls (.int y :: .int x :: S)) :=
  Go.step (fun _ k => XS.imul X.here C.1 rfl (hb C.2.2.1 hd.1) rfl k) (by rw [hd.2] at g; exact g)
theorem wiand (C : Cur p l e s m meth c Z bc ml own nm rt) (X : Stand p l e R s m args below meth c T locs cells slots) {x y : Int32} (hd : Dec bc pc (.iand) 1 pc') (g : Go p e below s Q kC kS T (mkF m pc' Ls (.int (x &&& y) :: S))) : Go p e below s Q kC kS T (mkF m pc Ls (.int y :: .int x :: S)) :=
  Go.step (fun _ k => XS.iand X.here C.1 rfl (hb C.2.2.1 hd.1) rfl k) (by rw [hd.2] at g; exact g)
theorem wior (C : Cur p l e s m meth c Z bc ml own nm rt) (X : Stand p l e R s m args below meth c T locs cells slots) {x y : Int32} (hd : Dec bc pc (.ior) 1 pc') (g : Go p e below s Q kC kS T (mkF m pc' Ls (.int (x ||| y) :: S))) : Go p e below s Q kC kS T (mkF m pc Ls (.int y :: .int x :: S)) :=
  Go.step (fun _ k => XS.ior X.here C.1 rfl (hb C.2.2.1 hd.1) rfl k) (by rw [hd.2] at g; exact g)
theorem wixor (C : Cur p l e s m meth c Z bc ml own nm rt) (X : Stand p l e R s m args below meth c T locs cells slots) {x y : Int32} (hd : Dec bc pc (.ixor) 1 pc') (g : Go p e below s Q kC kS T (mkF m pc' Ls (.int (x ^^^ y) :: S))) : Go p e below s Q kC kS T (mkF m pc Ls (.int y :: .int x :: S)) :=
  Go.step (fun _ k => XS.ixor X.here C.1 rfl (hb C.2.2.1 hd.1) rfl k) (by rw [hd.2] at g; exact g)
theorem wishl (C : Cur p l e s m meth c Z bc ml own nm rt) (X : Stand p l e R s m args below meth c T locs cells slots) {x y : Int32} (hd : Dec bc pc (.ishl) 1 pc') (g : Go p e below s Q kC kS T (mkF m pc' Ls (.int (x <<< (y &&& 31)) :: S))) : Go p e below s Q kC kS T (mkF m pc Ls (.int y :: .int x :: S)) :=
  Go.step (fun _ k => XS.ishl X.here C.1 rfl (hb C.2.2.1 hd.1) rfl k) (by rw [hd.2] at g; exact g)
theorem wishr (C : Cur p l e s m meth c Z bc ml own nm rt) (X : Stand p l e R s m args below meth c T locs cells slots) {x y : Int32} (hd : Dec bc pc (.ishr) 1 pc') (g : Go p e below s Q kC kS T (mkF m pc' Ls (.int (x >>> (y &&& 31)) :: S))) : Go p e below s Q kC kS T (mkF m pc Ls (.int y :: .int x :: S)) :=
  Go.step (fun _ k => XS.ishr X.here C.1 rfl (hb C.2.2.1 hd.1) rfl k) (by rw [hd.2] at g; exact g)
theorem wiushr (C : Cur p l e s m meth c Z bc ml own nm rt) (X : Stand p l e R s m args below meth c T locs cells slots) {x y : Int32} (hd : Dec bc pc (.iushr) 1 pc') (g : Go p e below s Q kC kS T (mkF m pc' Ls (.int ((x.toUInt32 >>> (y &&& 31).toUInt32).toInt32) :: S))) : Go p e below s Q kC kS T (mkF m pc Ls (.int y :: .int x :: S)) :=
  Go.step (fun _ k => XS.iushr X.here C.1 rfl (hb C.2.2.1 hd.1) rfl k) (by rw [hd.2] at g; exact g)
theorem wladd (C : Cur p l e s m meth c Z bc ml own nm rt) (X : Stand p l e R s m args below meth c T locs cells slots) {x y : Int64} (hd : Dec bc pc (.ladd) 1 pc') (g : Go p e below s Q kC kS T (mkF m pc' Ls (.long (x + y) :: S))) : Go p e below s Q kC kS T (mkF m pc Ls (.long y :: .long x :: S)) :=
  Go.step (fun _ k => XS.ladd X.here C.1 rfl (hb C.2.2.1 hd.1) rfl k) (by rw [hd.2] at g; exact g)
theorem wlsub (C : Cur p l e s m meth c Z bc ml own nm rt) (X : Stand p l e R s m args below meth c T locs cells slots) {x y : Int64} (hd : Dec bc pc (.lsub) 1 pc') (g : Go p e below s Q kC kS T (mkF m pc' Ls (.long (x - y) :: S))) : Go p e below s Q kC kS T (mkF m pc Ls (.long y :: .long x :: S)) :=
  Go.step (fun _ k => XS.lsub X.here C.1 rfl (hb C.2.2.1 hd.1) rfl k) (by rw [hd.2] at g; exact g)
theorem wlmul (C : Cur p l e s m meth c Z bc ml own nm rt) (X : Stand p l e R s m args below meth c T locs cells slots) {x y : Int64} (hd : Dec bc pc (.lmul) 1 pc') (g : Go p e below s Q kC kS T (mkF m pc' Ls (.long (x * y) :: S))) : Go p e below s Q kC kS T (mkF m pc Ls (.long y :: .long x :: S)) :=
  Go.step (fun _ k => XS.lmul X.here C.1 rfl (hb C.2.2.1 hd.1) rfl k) (by rw [hd.2] at g; exact g)
theorem wland (C : Cur p l e s m meth c Z bc ml own nm rt) (X : Stand p l e R s m args below meth c T locs cells slots) {x y : Int64} (hd : Dec bc pc (.land) 1 pc') (g : Go p e below s Q kC kS T (mkF m pc' Ls (.long (x &&& y) :: S))) : Go p e below s Q kC kS T (mkF m pc Ls (.long y :: .long x :: S)) :=
  Go.step (fun _ k => XS.land X.here C.1 rfl (hb C.2.2.1 hd.1) rfl k) (by rw [hd.2] at g; exact g)
theorem wlor (C : Cur p l e s m meth c Z bc ml own nm rt) (X : Stand p l e R s m args below meth c T locs cells slots) {x y : Int64} (hd : Dec bc pc (.lor) 1 pc') (g : Go p e below s Q kC kS T (mkF m pc' Ls (.long (x ||| y) :: S))) : Go p e below s Q kC kS T (mkF m pc Ls (.long y :: .long x :: S)) :=
  Go.step (fun _ k => XS.lor X.here C.1 rfl (hb C.2.2.1 hd.1) rfl k) (by rw [hd.2] at g; exact g)
theorem wlxor (C : Cur p l e s m meth c Z bc ml own nm rt) (X : Stand p l e R s m args below meth c T locs cells slots) {x y : Int64} (hd : Dec bc pc (.lxor) 1 pc') (g : Go p e below s Q kC kS T (mkF m pc' Ls (.long (x ^^^ y) :: S))) : Go p e below s Q kC kS T (mkF m pc Ls (.long y :: .long x :: S)) :=
  Go.step (fun _ k => XS.lxor X.here C.1 rfl (hb C.2.2.1 hd.1) rfl k) (by rw [hd.2] at g; exact g)
theorem wlshl (C : Cur p l e s m meth c Z bc ml own nm rt) (X : Stand p l e R s m args below meth c T locs cells slots) {x : Int64} {y : Int32} (hd : Dec bc pc (.lshl) 1 pc') (g : Go p e below s Q kC kS T (mkF m pc' Ls (.long (x <<< (y &&& 0x3f).toInt64) :: S))) : Go p e below s Q kC kS T (mkF m pc Ls (.int y :: .long x :: S)) :=
  Go.step (fun _ k => XS.lshl X.here C.1 rfl (hb C.2.2.1 hd.1) rfl k) (by rw [hd.2] at g; exact g)
theorem wlshr (C : Cur p l e s m meth c Z bc ml own nm rt) (X : Stand p l e R s m args below meth c T locs cells slots) {x : Int64} {y : Int32} (hd : Dec bc pc (.lshr) 1 pc') (g : Go p e below s Q kC kS T (mkF m pc' Ls (.long (x >>> (y &&& 0x3f).toInt64) :: S))) : Go p e below s Q kC kS T (mkF m pc Ls (.int y :: .long x :: S)) :=
  Go.step (fun _ k => XS.lshr X.here C.1 rfl (hb C.2.2.1 hd.1) rfl k) (by rw [hd.2] at g; exact g)
theorem wlushr (C : Cur p l e s m meth c Z bc ml own nm rt) (X : Stand p l e R s m args below meth c T locs cells slots) {x : Int64} {y : Int32} (hd : Dec bc pc (.lushr) 1 pc') (g : Go p e below s Q kC kS T (mkF m pc' Ls (.long ((x.toUInt64 >>> (y &&& 0x3f).toInt64.toUInt64).toInt64) :: S))) : Go p e below s Q kC kS T (mkF m pc Ls (.int y :: .long x :: S)) :=
  Go.step (fun _ k => XS.lushr X.here C.1 rfl (hb C.2.2.1 hd.1) rfl k) (by rw [hd.2] at g; exact g)
theorem widiv (C : Cur p l e s m meth c Z bc ml own nm rt) (X : Stand p l e R s m args below meth c T locs cells slots) {x y : Int32} (hd : Dec bc pc (.idiv) 1 pc') (hy : y ≠ 0) (g : Go p e below s Q kC kS T (mkF m pc' Ls (.int (x / y) :: S))) : Go p e below s Q kC kS T (mkF m pc Ls (.int y :: .int x :: S)) :=
  Go.step (fun _ k => XS.idiv X.here C.1 rfl (hb C.2.2.1 hd.1) rfl hy k) (by rw [hd.2] at g; exact g)
theorem wirem (C : Cur p l e s m meth c Z bc ml own nm rt) (X : Stand p l e R s m args below meth c T locs cells slots) {x y : Int32} (hd : Dec bc pc (.irem) 1 pc') (hy : y ≠ 0) (g : Go p e below s Q kC kS T (mkF m pc' Ls (.int (x % y) :: S))) : Go p e below s Q kC kS T (mkF m pc Ls (.int y :: .int x :: S)) :=
  Go.step (fun _ k => iremM X C.1 rfl (hb C.2.2.1 hd.1) rfl hy k) (by rw [hd.2] at g; exact g)
theorem wldiv (C : Cur p l e s m meth c Z bc ml own nm rt) (X : Stand p l e R s m args below meth c T locs cells slots) {x y : Int64} (hd : Dec bc pc (.ldiv) 1 pc') (hy : y ≠ 0) (g : Go p e below s Q kC kS T (mkF m pc' Ls (.long (x / y) :: S))) : Go p e below s Q kC kS T (mkF m pc Ls (.long y :: .long x :: S)) :=
  Go.step (fun _ k => XS.ldiv X.here C.1 rfl (hb C.2.2.1 hd.1) rfl hy k) (by rw [hd.2] at g; exact g)
theorem wineg (C : Cur p l e s m meth c Z bc ml own nm rt) (X : Stand p l e R s m args below meth c T locs cells slots) {x : Int32} (hd : Dec bc pc (.ineg) 1 pc') (g : Go p e below s Q kC kS T (mkF m pc' Ls (.int (-x) :: S))) : Go p e below s Q kC kS T (mkF m pc Ls (.int x :: S)) :=
  Go.step (fun _ k => XS.ineg X.here C.1 rfl (hb C.2.2.1 hd.1) rfl k) (by rw [hd.2] at g; exact g)
theorem wi2l (C : Cur p l e s m meth c Z bc ml own nm rt) (X : Stand p l e R s m args below meth c T locs cells slots) {x : Int32} (hd : Dec bc pc (.i2l) 1 pc') (g : Go p e below s Q kC kS T (mkF m pc' Ls (.long (x.toInt64) :: S))) : Go p e below s Q kC kS T (mkF m pc Ls (.int x :: S)) :=
  Go.step (fun _ k => XS.i2l X.here C.1 rfl (hb C.2.2.1 hd.1) rfl k) (by rw [hd.2] at g; exact g)
theorem wl2i (C : Cur p l e s m meth c Z bc ml own nm rt) (X : Stand p l e R s m args below meth c T locs cells slots) {x : Int64} (hd : Dec bc pc (.l2i) 1 pc') (g : Go p e below s Q kC kS T (mkF m pc' Ls (.int (x.toInt32) :: S))) : Go p e below s Q kC kS T (mkF m pc Ls (.long x :: S)) :=
  Go.step (fun _ k => XS.l2i X.here C.1 rfl (hb C.2.2.1 hd.1) rfl k) (by rw [hd.2] at g; exact g)
theorem wi2b (C : Cur p l e s m meth c Z bc ml own nm rt) (X : Stand p l e R s m args below meth c T locs cells slots) {x : Int32} (hd : Dec bc pc (.i2b) 1 pc') (g : Go p e below s Q kC kS T (mkF m pc' Ls (.int (x.toInt8.toInt32) :: S))) : Go p e below s Q kC kS T (mkF m pc Ls (.int x :: S)) :=
  Go.step (fun _ k => XS.i2b X.here C.1 rfl (hb C.2.2.1 hd.1) rfl k) (by rw [hd.2] at g; exact g)
theorem wi2s (C : Cur p l e s m meth c Z bc ml own nm rt) (X : Stand p l e R s m args below meth c T locs cells slots) {x : Int32} (hd : Dec bc pc (.i2s) 1 pc') (g : Go p e below s Q kC kS T (mkF m pc' Ls (.int (x.toInt16.toInt32) :: S))) : Go p e below s Q kC kS T (mkF m pc Ls (.int x :: S)) :=
  Go.step (fun _ k => XS.i2s X.here C.1 rfl (hb C.2.2.1 hd.1) rfl k) (by rw [hd.2] at g; exact g)
theorem wi2c (C : Cur p l e s m meth c Z bc ml own nm rt) (X : Stand p l e R s m args below meth c T locs cells slots) {x : Int32} (hd : Dec bc pc (.i2c) 1 pc') (g : Go p e below s Q kC kS T (mkF m pc' Ls (.int (x.toUInt32.toUInt16.toUInt32.toInt32) :: S))) : Go p e below s Q kC kS T (mkF m pc Ls (.int x :: S)) :=
  Go.step (fun _ k => XS.i2c X.here C.1 rfl (hb C.2.2.1 hd.1) rfl k) (by rw [hd.2] at g; exact g)
theorem wlneg (C : Cur p l e s m meth c Z bc ml own nm rt) (X : Stand p l e R s m args below meth c T locs cells slots) {x : Int64} (hd : Dec bc pc (.lneg) 1 pc') (g : Go p e below s Q kC kS T (mkF m pc' Ls (.long (-x) :: S))) : Go p e below s Q kC kS T (mkF m pc Ls (.long x :: S)) :=
  Go.step (fun _ k => XS.lneg X.here C.1 rfl (hb C.2.2.1 hd.1) rfl k) (by rw [hd.2] at g; exact g)
theorem wi2d (C : Cur p l e s m meth c Z bc ml own nm rt) (X : Stand p l e R s m args below meth c T locs cells slots) {x : Int32} (hd : Dec bc pc (.i2d) 1 pc') (g : Go p e below s Q kC kS T (mkF m pc' Ls (.double (FP.i2d x) :: S))) : Go p e below s Q kC kS T (mkF m pc Ls (.int x :: S)) :=
  Go.step (fun _ k => XS.i2dS X.here C.1 rfl (hb C.2.2.1 hd.1) rfl rfl k) (by rw [hd.2] at g; exact g)
theorem wl2d (C : Cur p l e s m meth c Z bc ml own nm rt) (X : Stand p l e R s m args below meth c T locs cells slots) {x : Int64} (hd : Dec bc pc (.l2d) 1 pc') (g : Go p e below s Q kC kS T (mkF m pc' Ls (.double (FP.l2d x) :: S))) : Go p e below s Q kC kS T (mkF m pc Ls (.long x :: S)) :=
  Go.step (fun _ k => XS.l2dS X.here C.1 rfl (hb C.2.2.1 hd.1) rfl rfl k) (by rw [hd.2] at g; exact g)
theorem wd2i (C : Cur p l e s m meth c Z bc ml own nm rt) (X : Stand p l e R s m args below meth c T locs cells slots) {x : UInt64} (hd : Dec bc pc (.d2i) 1 pc') (g : Go p e below s Q kC kS T (mkF m pc' Ls (.int (FP.d2i x) :: S))) : Go p e below s Q kC kS T (mkF m pc Ls (.double x :: S)) :=
  Go.step (fun _ k => XS.d2iS X.here C.1 rfl (hb C.2.2.1 hd.1) rfl rfl k) (by rw [hd.2] at g; exact g)
theorem wd2l (C : Cur p l e s m meth c Z bc ml own nm rt) (X : Stand p l e R s m args below meth c T locs cells slots) {x : UInt64} (hd : Dec bc pc (.d2l) 1 pc') (g : Go p e below s Q kC kS T (mkF m pc' Ls (.long (FP.d2l x) :: S))) : Go p e below s Q kC kS T (mkF m pc Ls (.double x :: S)) :=
  Go.step (fun _ k => XS.d2lS X.here C.1 rfl (hb C.2.2.1 hd.1) rfl rfl k) (by rw [hd.2] at g; exact g)
theorem wdneg (C : Cur p l e s m meth c Z bc ml own nm rt) (X : Stand p l e R s m args below meth c T locs cells slots) {x : UInt64} (hd : Dec bc pc (.dneg) 1 pc') (g : Go p e below s Q kC kS T (mkF m pc' Ls (.double (FP.dneg x) :: S))) : Go p e below s Q kC kS T (mkF m pc Ls (.double x :: S)) :=
  Go.step (fun _ k => XS.dnegS X.here C.1 rfl (hb C.2.2.1 hd.1) rfl rfl k) (by rw [hd.2] at g; exact g)
theorem wdadd (C : Cur p l e s m meth c Z bc ml own nm rt) (X : Stand p l e R s m args below meth c T locs cells slots) {x y : UInt64} (hd : Dec bc pc (.dadd) 1 pc') {v : UInt64} (hv : FP.dadd x y = v) (hn : Jvm.Free.Fl.NoNaN64 v) (g : Go p e below s Q kC kS T (mkF m pc' Ls (.double v :: S))) : Go p e below s Q kC kS T (mkF m pc Ls (.double y :: .double x :: S)) :=
  Go.step (fun _ k => XS.daddS X.here C.1 rfl (hb C.2.2.1 hd.1) rfl (by rw [hv]; exact hn) hv k) (by rw [hd.2] at g; exact g)
theorem wdsub (C : Cur p l e s m meth c Z bc ml own nm rt) (X : Stand p l e R s m args below meth c T locs cells slots) {x y : UInt64} (hd : Dec bc pc (.dsub) 1 pc') {v : UInt64} (hv : FP.dsub x y = v) (hn : Jvm.Free.Fl.NoNaN64 v) (g : Go p e below s Q kC kS T (mkF m pc' Ls (.double v :: S))) : Go p e below s Q kC kS T (mkF m pc Ls (.double y :: .double x :: S)) :=
  Go.step (fun _ k => XS.dsubS X.here C.1 rfl (hb C.2.2.1 hd.1) rfl (by rw [hv]; exact hn) hv k) (by rw [hd.2] at g; exact g)
theorem wdmul (C : Cur p l e s m meth c Z bc ml own nm rt) (X : Stand p l e R s m args below meth c T locs cells slots) {x y : UInt64} (hd : Dec bc pc (.dmul) 1 pc') {v : UInt64} (hv : FP.dmul x y = v) (hn : Jvm.Free.Fl.NoNaN64 v) (g : Go p e below s Q kC kS T (mkF m pc' Ls (.double v :: S))) : Go p e below s Q kC kS T (mkF m pc Ls (.double y :: .double x :: S)) :=
  Go.step (fun _ k => XS.dmulS X.here C.1 rfl (hb C.2.2.1 hd.1) rfl (by rw [hv]; exact hn) hv k) (by rw [hd.2] at g; exact g)
theorem wddiv (C : Cur p l e s m meth c Z bc ml own nm rt) (X : Stand p l e R s m args below meth c T locs cells slots) {x y : UInt64} (hd : Dec bc pc (.ddiv) 1 pc') {v : UInt64} (hv : FP.ddiv x y = v) (hn : Jvm.Free.Fl.NoNaN64 v) (g : Go p e below s Q kC kS T (mkF m pc' Ls (.double v :: S))) : Go p e below s Q kC kS T (mkF m pc Ls (.double y :: .double x :: S)) :=
  Go.step (fun _ k => XS.ddivS X.here C.1 rfl (hb C.2.2.1 hd.1) rfl (by rw [hv]; exact hn) hv k) (by rw [hd.2] at g; exact g)
theorem wdcmp (C : Cur p l e s m meth c Z bc ml own nm rt) (X : Stand p l e R s m args below meth c T locs cells slots) {o : CmpOp} {x y : UInt64} (hd : Dec bc pc (.dcmp o) 1 pc') {v : Int32} (hv : cmpValue (FP.dcmp x y) o = v) (g : Go p e below s Q kC kS T (mkF m pc' Ls (.int v :: S))) : Go p e below s Q kC kS T (mkF m pc Ls (.double y :: .double x :: S)) :=
  Go.step (fun _ k => XS.dcmpS X.here C.1 rfl (hb C.2.2.1 hd.1) rfl hv k) (by rw [hd.2] at g; exact g)
theorem wlcmp (C : Cur p l e s m meth c Z bc ml own nm rt) (X : Stand p l e R s m args below meth c T locs cells slots) {x y : Int64} (hd : Dec bc pc (.lcmp) 1 pc') (g : Go p e below s Q kC kS T (mkF m pc' Ls (.int (lcmpW x y) :: S))) : Go p e below s Q kC kS T (mkF m pc Ls (.long y :: .long x :: S)) :=
  Go.step (fun _ k => XS.lcmp X.here C.1 rfl (hb C.2.2.1 hd.1) rfl k) (by rw [hd.2] at g; exact g)
theorem wdup (C : Cur p l e s m meth c Z bc ml own nm rt) (X : Stand p l e R s m args below meth c T locs cells slots) {v : Value} (hd : Dec bc pc (.dup) 1 pc') (hc : v.category = 1) (g : Go p e below s Q kC kS T (mkF m pc' Ls (v :: v :: S))) : Go p e below s Q kC kS T (mkF m pc Ls (v :: S)) :=
  Go.step (fun _ k => XS.dup X.here C.1 rfl (hb C.2.2.1 hd.1) rfl hc k) (by rw [hd.2] at g; exact g)
theorem wdupX1 (C : Cur p l e s m meth c Z bc ml own nm rt) (X : Stand p l e R s m args below meth c T locs cells slots) {v u : Value} (hd : Dec bc pc (.dup_x1) 1 pc') (hc : v.category = 1) (hc' : u.category = 1) (g : Go p e below s Q kC kS T (mkF m pc' Ls (v :: u :: v :: S))) : Go p e below s Q kC kS T (mkF m pc Ls (v :: u :: S)) :=
  Go.step (fun _ k => XS.dupX1 X.here C.1 rfl (hb C.2.2.1 hd.1) rfl hc hc' k) (by rw [hd.2] at g; exact g)
theorem wdup2 (C : Cur p l e s m meth c Z bc ml own nm rt) (X : Stand p l e R s m args below meth c T locs cells slots) {v u : Value} (hd : Dec bc pc (.dup2) 1 pc') (hc : v.category = 1) (hc' : u.category = 1) (g : Go p e below s Q kC kS T (mkF m pc' Ls (v :: u :: v :: u :: S))) : Go p e below s Q kC kS T (mkF m pc Ls (v :: u :: S)) :=
  Go.step (fun _ k => Jvm.Free.XT.dup2 X.here C.1 rfl (hb C.2.2.1 hd.1) rfl hc hc' k) (by rw [hd.2] at g; exact g)
theorem wpop (C : Cur p l e s m meth c Z bc ml own nm rt) (X : Stand p l e R s m args below meth c T locs cells slots) {v : Value} (hd : Dec bc pc (.pop) 1 pc') (hc : v.category = 1) (g : Go p e below s Q kC kS T (mkF m pc' Ls S)) : Go p e below s Q kC kS T (mkF m pc Ls (v :: S)) :=
  Go.step (fun _ k => XS.pop X.here C.1 rfl (hb C.2.2.1 hd.1) rfl hc k) (by rw [hd.2] at g; exact g)
theorem wiinc (C : Cur p l e s m meth c Z bc ml own nm rt) (X : Stand p l e R s m args below meth c T locs cells slots) {k : Nat} {cst : Int} {x : Int32} (hd : Dec bc pc (.iinc k cst) 3 pc') (z : Int32) (hz : x + Int32.ofInt cst = z) (hl : Ls[k]? = some (.val (.int x))) (l' : Array Slot) (hl' : storeLocals Ls k (.int z) = some l') (g : Go p e below s Q kC kS T (mkF m pc' l' S)) : Go p e below s Q kC kS T (mkF m pc Ls S) :=
  Go.step (fun _ k => XS.iinc X.here C.1 rfl (hb C.2.2.1 hd.1) hl (by rw [hz]; exact hl') k) (by rw [hd.2] at g; exact g)
theorem wgoto (C : Cur p l e s m meth c Z bc ml own nm rt) (X : Stand p l e R s m args below meth c T locs cells slots) {o : Int} {tgt nxt : Nat} (hd : DecJ bc pc (.goto o) o tgt nxt) (g : Go p e below s Q kC kS T (mkF m tgt Ls S)) : Go p e below s Q kC kS T (mkF m pc Ls S) :=
  Go.step (fun _ k => XS.goto X.here C.1 rfl (pc0 := pc) (pc' := tgt) rfl (hb C.2.2.1 hd.1) hd.2.1 hd.2.2.1 k) g
theorem wicmp_lt (C : Cur p l e s m meth c Z bc ml own nm rt) (X : Stand p l e R s m args below meth c T locs cells slots) {x y : Int32} {o : Int} {tgt nxt : Nat} (hd : DecJ bc pc (.if_icmp .lt o) o tgt nxt) (hp : x < y → Go p e below s Q kC kS T (mkF m tgt Ls S)) (hn : ¬ x < y → Go p e below s Q kC kS T (mkF m nxt Ls S)) : Go p e below s Q kC kS T (mkF m pc Ls (.int y :: .int x :: S)) := by
  by_cases h : x < y
  · have g := hp h
    exact Go.step (fun _ k => XS.icmpYes X.here C.1 rfl (pc0 := pc) (pc' := tgt) rfl (hb C.2.2.1 hd.1) rfl (tlt h).1 hd.2.1 hd.2.2.1 k) g
  · have g := hn h
    rw [hd.2.2.2] at g; exact Go.step (fun _ k => XS.icmpNo X.here C.1 rfl (hb C.2.2.1 hd.1) rfl (flt h).1 k) g
theorem wif_lt (C : Cur p l e s m meth c Z bc ml own nm rt) (X : Stand p l e R s m args below meth c T locs cells slots) {x : Int32} {o : Int} {tgt nxt : Nat} (hd : DecJ bc pc (.ifCond .lt o) o tgt nxt) (hp : x < (0 : Int32) → Go p e below s Q kC kS T (mkF m tgt Ls S)) (hn : ¬ x < (0 : Int32) → Go p e below s Q kC kS T (mkF m nxt Ls S)) : Go p e below s Q kC kS T (mkF m pc Ls (.int x :: S)) := by
  by_cases h : x < (0 : Int32)
  · have g := hp h
    exact Go.step (fun _ k => XS.ifYes X.here C.1 rfl (pc0 := pc) (pc' := tgt) rfl (hb C.2.2.1 hd.1) rfl ((if0 _ _).trans (tlt h).1) hd.2.1 hd.2.2.1 k) g
  · have g := hn h
    rw [hd.2.2.2] at g; exact Go.step (fun _ k => XS.ifNo X.here C.1 rfl (hb C.2.2.1 hd.1) rfl ((if0 _ _).trans (flt h).1) k) g
theorem wicmp_ge (C : Cur p l e s m meth c Z bc ml own nm rt) (X : Stand p l e R s m args below meth c T locs cells slots) {x y : Int32} {o : Int} {tgt nxt : Nat} (hd : DecJ bc pc (.if_icmp .ge o) o tgt nxt) (hp : x < y → Go p e below s Q kC kS T (mkF m nxt Ls S)) (hn : ¬ x < y → Go p e below s Q kC kS T (mkF m tgt Ls S)) : Go p e below s Q kC kS T (mkF m pc Ls (.int y :: .int x :: S)) := by
  by_cases h : x < y
  · have g := hp h
    rw [hd.2.2.2] at g; exact Go.step (fun _ k => XS.icmpNo X.here C.1 rfl (hb C.2.2.1 hd.1) rfl (tlt h).2.1 k) g
  · have g := hn h
    exact Go.step (fun _ k => XS.icmpYes X.here C.1 rfl (pc0 := pc) (pc' := tgt) rfl (hb C.2.2.1 hd.1) rfl (flt h).2.1 hd.2.1 hd.2.2.1 k) g
theorem wif_ge (C : Cur p l e s m meth c Z bc ml own nm rt) (X : Stand p l e R s m args below meth c T locs cells slots) {x : Int32} {o : Int} {tgt nxt : Nat} (hd : DecJ bc pc (.ifCond .ge o) o tgt nxt) (hp : x < (0 : Int32) → Go p e below s Q kC kS T (mkF m nxt Ls S)) (hn : ¬ x < (0 : Int32) → Go p e below s Q kC kS T (mkF m tgt Ls S)) : Go p e below s Q kC kS T (mkF m pc Ls (.int x :: S)) := by
  by_cases h : x < (0 : Int32)
  · have g := hp h
    rw [hd.2.2.2] at g; exact Go.step (fun _ k => XS.ifNo X.here C.1 rfl (hb C.2.2.1 hd.1) rfl ((if0 _ _).trans (tlt h).2.1) k) g
  · have g := hn h
    exact Go.step (fun _ k => XS.ifYes X.here C.1 rfl (pc0 := pc) (pc' := tgt) rfl (hb C.2.2.1 hd.1) rfl ((if0 _ _).trans (flt h).2.1) hd.2.1 hd.2.2.1 k) g
theorem wicmp_gt (C : Cur p l e s m meth c Z bc ml own nm rt) (X : Stand p l e R s m args below meth c T locs cells slots) {x y : Int32} {o : Int} {tgt nxt : Nat} (hd : DecJ bc pc (.if_icmp .gt o) o tgt nxt) (hp : y < x → Go p e below s Q kC kS T (mkF m tgt Ls S)) (hn : ¬ y < x → Go p e below s Q kC kS T (mkF m nxt Ls S)) : Go p e below s Q kC kS T (mkF m pc Ls (.int y :: .int x :: S)) := by
  by_cases h : y < x
  · have g := hp h
    exact Go.step (fun _ k => XS.icmpYes X.here C.1 rfl (pc0 := pc) (pc' := tgt) rfl (hb C.2.2.1 hd.1) rfl (tlt h).2.2.1 hd.2.1 hd.2.2.1 k) g
  · have g := hn h
    rw [hd.2.2.2] at g; exact Go.step (fun _ k => XS.icmpNo X.here C.1 rfl (hb C.2.2.1 hd.1) rfl (flt h).2.2.1 k) g
theorem wif_gt (C : Cur p l e s m meth c Z bc ml own nm rt) (X : Stand p l e R s m args below meth c T locs cells slots) {x : Int32} {o : Int} {tgt nxt : Nat} (hd : DecJ bc pc (.ifCond .gt o) o tgt nxt) (hp : (0 : Int32) < x → Go p e below s Q kC kS T (mkF m tgt Ls S)) (hn : ¬ (0 : Int32) < x → Go p e below s Q kC kS T (mkF m nxt Ls S)) : Go p e below s Q kC kS T (mkF m pc Ls (.int x :: S)) := by
  by_cases h : (0 : Int32) < x
  · have g := hp h
    exact Go.step (fun _ k => XS.ifYes X.here C.1 rfl (pc0 := pc) (pc' := tgt) rfl (hb C.2.2.1 hd.1) rfl ((if0 _ _).trans (tlt h).2.2.1) hd.2.1 hd.2.2.1 k) g
  · have g := hn h
    rw [hd.2.2.2] at g; exact Go.step (fun _ k => XS.ifNo X.here C.1 rfl (hb C.2.2.1 hd.1) rfl ((if0 _ _).trans (flt h).2.2.1) k) g
theorem wicmp_le (C : Cur p l e s m meth c Z bc ml own nm rt) (X : Stand p l e R s m args below meth c T locs cells slots) {x y : Int32} {o : Int} {tgt nxt : Nat} (hd : DecJ bc pc (.if_icmp .le o) o tgt nxt) (hp : y < x → Go p e below s Q kC kS T (mkF m nxt Ls S)) (hn : ¬ y < x → Go p e below s Q kC kS T (mkF m tgt Ls S)) : Go p e below s Q kC kS T (mkF m pc Ls (.int y :: .int x :: S)) := by
  by_cases h : y < x
  · have g := hp h
    rw [hd.2.2.2] at g; exact Go.step (fun _ k => XS.icmpNo X.here C.1 rfl (hb C.2.2.1 hd.1) rfl (tlt h).2.2.2 k) g
  · have g := hn h
    exact Go.step (fun _ k => XS.icmpYes X.here C.1 rfl (pc0 := pc) (pc' := tgt) rfl (hb C.2.2.1 hd.1) rfl (flt h).2.2.2 hd.2.1 hd.2.2.1 k) g
theorem wif_le (C : Cur p l e s m meth c Z bc ml own nm rt) (X : Stand p l e R s m args below meth c T locs cells slots) {x : Int32} {o : Int} {tgt nxt : Nat} (hd : DecJ bc pc (.ifCond .le o) o tgt nxt) (hp : (0 : Int32) < x → Go p e below s Q kC kS T (mkF m nxt Ls S)) (hn : ¬ (0 : Int32) < x → Go p e below s Q kC kS T (mkF m tgt Ls S)) : Go p e below s Q kC kS T (mkF m pc Ls (.int x :: S)) := by
  by_cases h : (0 : Int32) < x
  · have g := hp h
    rw [hd.2.2.2] at g; exact Go.step (fun _ k => XS.ifNo X.here C.1 rfl (hb C.2.2.1 hd.1) rfl ((if0 _ _).trans (tlt h).2.2.2) k) g
  · have g := hn h
    exact Go.step (fun _ k => XS.ifYes X.here C.1 rfl (pc0 := pc) (pc' := tgt) rfl (hb C.2.2.1 hd.1) rfl ((if0 _ _).trans (flt h).2.2.2) hd.2.1 hd.2.2.1 k) g
theorem wicmp_eq (C : Cur p l e s m meth c Z bc ml own nm rt) (X : Stand p l e R s m args below meth c T locs cells slots) {x y : Int32} {o : Int} {tgt nxt : Nat} (hd : DecJ bc pc (.if_icmp .eq o) o tgt nxt) (hp : x = y → Go p e below s Q kC kS T (mkF m tgt Ls S)) (hn : ¬ x = y → Go p e below s Q kC kS T (mkF m nxt Ls S)) : Go p e below s Q kC kS T (mkF m pc Ls (.int y :: .int x :: S)) := by
  by_cases h : x = y
  · have g := hp h
    exact Go.step (fun _ k => XS.icmpYes X.here C.1 rfl (pc0 := pc) (pc' := tgt) rfl (hb C.2.2.1 hd.1) rfl (teq h).1 hd.2.1 hd.2.2.1 k) g
  · have g := hn h
    rw [hd.2.2.2] at g; exact Go.step (fun _ k => XS.icmpNo X.here C.1 rfl (hb C.2.2.1 hd.1) rfl (feq h).1 k) g
theorem wif_eq (C : Cur p l e s m meth c Z bc ml own nm rt) (X : Stand p l e R s m args below meth c T locs cells slots) {x : Int32} {o : Int} {tgt nxt : Nat} (hd : DecJ bc pc (.ifCond .eq o) o tgt nxt) (hp : x = (0 : Int32) → Go p e below s Q kC kS T (mkF m tgt Ls S)) (hn : ¬ x = (0 : Int32) → Go p e below s Q kC kS T (mkF m nxt Ls S)) : Go p e below s Q kC kS T (mkF m pc Ls (.int x :: S)) := by
  by_cases h : x = (0 : Int32)
  · have g := hp h
    exact Go.step (fun _ k => XS.ifYes X.here C.1 rfl (pc0 := pc) (pc' := tgt) rfl (hb C.2.2.1 hd.1) rfl ((if0 _ _).trans (teq h).1) hd.2.1 hd.2.2.1 k) g
  · have g := hn h
    rw [hd.2.2.2] at g; exact Go.step (fun _ k => XS.ifNo X.here C.1 rfl (hb C.2.2.1 hd.1) rfl ((if0 _ _).trans (feq h).1) k) g
theorem wicmp_ne (C : Cur p l e s m meth c Z bc ml own nm rt) (X : Stand p l e R s m args below meth c T locs cells slots) {x y : Int32} {o : Int} {tgt nxt : Nat} (hd : DecJ bc pc (.if_icmp .ne o) o tgt nxt) (hp : x = y → Go p e below s Q kC kS T (mkF m nxt Ls S)) (hn : ¬ x = y → Go p e below s Q kC kS T (mkF m tgt Ls S)) : Go p e below s Q kC kS T (mkF m pc Ls (.int y :: .int x :: S)) := by
  by_cases h : x = y
  · have g := hp h
    rw [hd.2.2.2] at g; exact Go.step (fun _ k => XS.icmpNo X.here C.1 rfl (hb C.2.2.1 hd.1) rfl (teq h).2 k) g
  · have g := hn h
    exact Go.step (fun _ k => XS.icmpYes X.here C.1 rfl (pc0 := pc) (pc' := tgt) rfl (hb C.2.2.1 hd.1) rfl (feq h).2 hd.2.1 hd.2.2.1 k) g
theorem wif_ne (C : Cur p l e s m meth c Z bc ml own nm rt) (X : Stand p l e R s m args below meth c T locs cells slots) {x : Int32} {o : Int} {tgt nxt : Nat} (hd : DecJ bc pc (.ifCond .ne o) o tgt nxt) (hp : x = (0 : Int32) → Go p e below s Q kC kS T (mkF m nxt Ls S)) (hn : ¬ x = (0 : Int32) → Go p e below s Q kC kS T (mkF m tgt Ls S)) : Go p e below s Q kC kS T (mkF m pc Ls (.int x :: S)) := by
  by_cases h : x = (0 : Int32)
  · have g := hp h
    rw [hd.2.2.2] at g; exact Go.step (fun _ k => XS.ifNo X.here C.1 rfl (hb C.2.2.1 hd.1) rfl ((if0 _ _).trans (teq h).2) k) g
  · have g := hn h
    exact Go.step (fun _ k => XS.ifYes X.here C.1 rfl (pc0 := pc) (pc' := tgt) rfl (hb C.2.2.1 hd.1) rfl ((if0 _ _).trans (feq h).2) hd.2.1 hd.2.2.1 k) g
theorem wacmp_eq (C : Cur p l e s m meth c Z bc ml own nm rt) (X : Stand p l e R s m args below meth c T locs cells slots) {x y : Value} (h1 : x.isRef = true) (h2 : y.isRef = true) {o : Int} {tgt nxt : Nat} (hd : DecJ bc pc (.if_acmp .eq o) o tgt nxt) (hp : x = y → Go p e below s Q kC kS T (mkF m tgt Ls S)) (hn : ¬ x = y → Go p e below s Q kC kS T (mkF m nxt Ls S)) : Go p e below s Q kC kS T (mkF m pc Ls (y :: x :: S)) := by
  by_cases h : x = y
  · have g := hp h
    exact Go.step (fun _ k => Jvm.RoadKit.acmp X C.1 rfl h1 h2 (pc0 := pc) (pc' := tgt) (same := true) rfl (hb C.2.2.1 hd.1) rfl (decide_eq_true h) hd.2.1 (by rw [hd.2.2.1]; rfl) k) g
  · have g := hn h
    exact Go.step (fun _ k => Jvm.RoadKit.acmp X C.1 rfl h1 h2 (pc0 := pc) (pc' := nxt) (same := false) rfl (hb C.2.2.1 hd.1) rfl (decide_eq_false h) hd.2.1 (by rw [hd.2.2.2]; rfl) k) g
theorem wacmp_ne (C : Cur p l e s m meth c Z bc ml own nm rt) (X : Stand p l e R s m args below meth c T locs cells slots) {x y : Value} (h1 : x.isRef = true) (h2 : y.isRef = true) {o : Int} {tgt nxt : Nat} (hd : DecJ bc pc (.if_acmp .ne o) o tgt nxt) (hp : x = y → Go p e below s Q kC kS T (mkF m nxt Ls S)) (hn : ¬ x = y → Go p e below s Q kC kS T (mkF m tgt Ls S)) : Go p e below s Q kC kS T (mkF m pc Ls (y :: x :: S)) := by
  by_cases h : x = y
  · have g := hp h
    exact Go.step (fun _ k => Jvm.RoadKit.acmp X C.1 rfl h1 h2 (pc0 := pc) (pc' := nxt) (same := true) rfl (hb C.2.2.1 hd.1) rfl (decide_eq_true h) hd.2.1 (by rw [hd.2.2.2]; rfl) k) g
  · have g := hn h
    exact Go.step (fun _ k => Jvm.RoadKit.acmp X C.1 rfl h1 h2 (pc0 := pc) (pc' := tgt) (same := false) rfl (hb C.2.2.1 hd.1) rfl (decide_eq_false h) hd.2.1 (by rw [hd.2.2.1]; rfl) k) g
theorem wifnullY (C : Cur p l e s m meth c Z bc ml own nm rt) (X : Stand p l e R s m args below meth c T locs cells slots) {b : Addr} {o : Int} {tgt nxt : Nat} (hd : DecJ bc pc (.ifnull o) o tgt nxt) (g : Go p e below s Q kC kS T (mkF m tgt Ls S)) : Go p e below s Q kC kS T (mkF m pc Ls (.null :: S)) :=
  Go.step (fun _ k => XS.ifnullYes X.here C.1 rfl (pc0 := pc) (pc' := tgt) rfl (hb C.2.2.1 hd.1) rfl hd.2.1 hd.2.2.1 k) g
theorem wifnullN (C : Cur p l e s m meth c Z bc ml own nm rt) (X : Stand p l e R s m args below meth c T locs cells slots) {b : Addr} {o : Int} {tgt nxt : Nat} (hd : DecJ bc pc (.ifnull o) o tgt nxt) (g : Go p e below s Q kC kS T (mkF m nxt Ls S)) : Go p e below s Q kC kS T (mkF m pc Ls (.ref b :: S)) := by
  rw [hd.2.2.2] at g
  exact Go.step (fun _ k => XS.ifnullNo X.here C.1 rfl (hb C.2.2.1 hd.1) rfl k) g
theorem wifnonnullY (C : Cur p l e s m meth c Z bc ml own nm rt) (X : Stand p l e R s m args below meth c T locs cells slots) {b : Addr} {o : Int} {tgt nxt : Nat} (hd : DecJ bc pc (.ifnonnull o) o tgt nxt) (g : Go p e below s Q kC kS T (mkF m tgt Ls S)) : Go p e below s Q kC kS T (mkF m pc Ls (.ref b :: S)) :=
  Go.step (fun _ k => XS.ifnonnullYes X.here C.1 rfl (pc0 := pc) (pc' := tgt) rfl (hb C.2.2.1 hd.1) rfl hd.2.1 hd.2.2.1 k) g
theorem wifnonnullN (C : Cur p l e s m meth c Z bc ml own nm rt) (X : Stand p l e R s m args below meth c T locs cells slots) {b : Addr} {o : Int} {tgt nxt : Nat} (hd : DecJ bc pc (.ifnonnull o) o tgt nxt) (g : Go p e below s Q kC kS T (mkF m nxt Ls S)) : Go p e below s Q kC kS T (mkF m pc Ls (.null :: S)) := by
  rw [hd.2.2.2] at g
  exact Go.step (fun _ k => XS.ifnonnullNo X.here C.1 rfl (hb C.2.2.1 hd.1) rfl k) g
theorem wret (C : Cur p l e s m meth c Z bc ml own nm rt) (X : Stand p l e R s m args below meth c T locs cells slots) (hd : Dec bc pc .return_ 1 pc') (hrt : rt = none) (hk : cells ≤ kC) (hn : slots ≤ kS) (q : Q none T.heap locs) : Go p e below s Q kC kS T (mkF m pc Ls []) := by
  subst hrt
  obtain ⟨fs, hr, hrun, hended, hW, hsame⟩ := X.leave (v := none) (fun _ => rfl) C.2.2.2.2.2.2.1
  exact ⟨_, _, X.returnOut C.1 C.2.2.2.2.2.1 (hb C.2.2.1 hd.1) hr, hrun, hended, none, _, rfl, q, ⟨_, rfl⟩, hW, hsame.mono hk hn⟩
theorem wretV (C : Cur p l e s m meth c Z bc ml own nm rt) (X : Stand p l e R s m args below meth c T locs cells slots) {w : Value} {t : FieldType} {i : Instr} (hd : Dec bc pc i 1 pc') (hrt : rt = some t) (hnw : narrow t w = w)
    (hi : (i = .ireturn ∧ (t = .int ∨ t = .boolean ∨ t = .byte ∨ t = .char ∨ t = .short) ∧ ∃ z, w = .int z) ∨ (i = .lreturn ∧ t = .long ∧ ∃ z, w = .long z) ∨ (i = .dreturn ∧ t = .double ∧ ∃ z, w = .double z) ∨ (i = .freturn ∧ t = .float ∧ ∃ z, w = .float z) ∨ (i = .areturn ∧ t.isReference = true ∧ w.isRef = true))
    (hk : cells ≤ kC) (hn : slots ≤ kS) (q : Q (some w) T.heap locs) : Go p e below s Q kC kS T (mkF m pc Ls (w :: S)) := by
  subst hrt
  obtain ⟨fs, hr, hrun, hended, hW, hsame⟩ := X.leave (v := some w) (fun h => by rw [C.2.2.2.2.2.1] at h; cases h) C.2.2.2.2.2.2.1
  exact ⟨_, _, retOut X C.1 C.2.2.2.2.2.1 hnw hi (hb C.2.2.1 hd.1) hr, hrun, hended, some w, _, rfl, q, ⟨_, rfl⟩, hW, hsame.mono hk hn⟩
theorem wiret (C : Cur p l e s m meth c Z bc ml own nm rt) (X : Stand p l e R s m args below meth c T locs cells slots) {z : Int32} (hd : Dec bc pc .ireturn 1 pc') (hrt : rt = some .int) (hk : cells ≤ kC) (hn : slots ≤ kS) (q : Q (some (.int z)) T.heap locs) : Go p e below s Q kC kS T (mkF m pc Ls (.int z :: S)) :=
  wretV C X hd hrt rfl (Or.inl ⟨rfl, Or.inl rfl, z, rfl⟩) hk hn q
theorem wiretN (C : Cur p l e s m meth c Z bc ml own nm rt) (X : Stand p l e R s m args below meth c T locs cells slots) {z : Int32} {t : FieldType} (ht : t = .boolean ∨ t = .byte ∨ t = .char ∨ t = .short) (hd : Dec bc pc .ireturn 1 pc') (hrt : rt = some t) (z' : Int32) (hz : nar t z = z') (hk : cells ≤ kC) (hn : slots ≤ kS) (q : Q (some (.int z')) T.heap locs) : Go p e below s Q kC kS T (mkF m pc Ls (.int z :: S)) := by
  subst hrt hz
  obtain ⟨fs, hr, hrun, hended, hW, hsame⟩ := X.leave (v := some (.int (nar t z))) (fun h => by rw [C.2.2.2.2.2.1] at h; cases h) C.2.2.2.2.2.2.1
  exact ⟨_, _, retN X C.1 (t := t) C.2.2.2.2.2.1 ht (hb C.2.2.1 hd.1) hr, hrun, hended, some _, _, rfl, q, ⟨_, rfl⟩, hW, hsame.mono hk hn⟩
theorem wlret (C : Cur p l e s m meth c Z bc ml own nm rt) (X : Stand p l e R s m args below meth c T locs cells slots) {z : Int64} (hd : Dec bc pc .lreturn 1 pc') (hrt : rt = some .long) (hk : cells ≤ kC) (hn : slots ≤ kS) (q : Q (some (.long z)) T.heap locs) : Go p e below s Q kC kS T (mkF m pc Ls (.long z :: S)) :=
  wretV C X hd hrt rfl (Or.inr (Or.inl ⟨rfl, rfl, z, rfl⟩)) hk hn q
theorem wdret (C : Cur p l e s m meth c Z bc ml own nm rt) (X : Stand p l e R s m args below meth c T locs cells slots) {z : UInt64} (hd : Dec bc pc .dreturn 1 pc') (hrt : rt = some .double) (hk : cells ≤ kC) (hn : slots ≤ kS) (q : Q (some (.double z)) T.heap locs) : Go p e below s Q kC kS T (mkF m pc Ls (.double z :: S)) :=
  wretV C X hd hrt rfl (Or.inr (Or.inr (Or.inl ⟨rfl, rfl, z, rfl⟩))) hk hn q
theorem waret (C : Cur p l e s m meth c Z bc ml own nm rt) (X : Stand p l e R s m args below meth c T locs cells slots) {w : Value} {t : FieldType} (hd : Dec bc pc .areturn 1 pc') (hrt : rt = some t) (ht : t.isReference = true) (hw : w.isRef = true) (hnw : narrow t w = w) (hk : cells ≤ kC) (hn : slots ≤ kS) (q : Q (some w) T.heap locs) : Go p e below s Q kC kS T (mkF m pc Ls (w :: S)) :=
  wretV C X hd hrt hnw (Or.inr (Or.inr (Or.inr (Or.inr ⟨rfl, ht, hw⟩)))) hk hn q
theorem wget (C : Cur p l e s m meth c Z bc ml own nm rt) (X : Stand p l e R s m args below meth c T locs cells slots) {R0 O n d host : String} {index : Nat} (w : (Jvm.Cond.fieldLink own index R0 n d).before a0 Z = true ∨ (Jvm.Cond.fieldLinkNest own index R0 n d host).before a0 Z = true) (via : Via Z R0 O n d) (eT : T.heap = h) {a : Addr} {v : Value} (F : Fld Z h a O n d v) (hd : Dec bc pc (.getfield index) 3 pc')
    (K : ∀ T' : State, Stand p l e R s m args below meth c T' locs cells slots → T'.heap = h → Go p e below s Q kC kS T' (mkF m pc' Ls (v :: S))) : Go p e below s Q kC kS T (mkF m pc Ls (.ref a :: S)) := by
  obtain ⟨T', X', e', st⟩ := getF X C.1 C.2.1 C.2.2.2.2.1 w via eT F (g := mkF m pc Ls (.ref a :: S)) rfl rfl (hb C.2.2.1 hd.1)
  have k := K T' X' e'
  rw [hd.2] at k
  exact Go.step st k
theorem wgets (C : Cur p l e s m meth c Z bc ml own nm rt) (X : Stand p l e R s m args below meth c T locs cells slots) {R0 O n d host : String} {index : Nat} (w : (Jvm.Cond.fieldLink own index R0 n d).before a0 Z = true ∨ (Jvm.Cond.fieldLinkNest own index R0 n d host).before a0 Z = true) (via : Via Z R0 O n d) (eT : T.heap = h) {v : Value} (F : Sta Z h O n d v) (hd : Dec bc pc (.getstatic index) 3 pc')
    (K : ∀ T' : State, Stand p l e R s m args below meth c T' locs cells slots → T'.heap = h → Go p e below s Q kC kS T' (mkF m pc' Ls (v :: S))) : Go p e below s Q kC kS T (mkF m pc Ls S) := by
  obtain ⟨T', X', e', st⟩ := getS2 X C.1 C.2.1 C.2.2.2.2.1 w via eT F (g := mkF m pc Ls S) rfl (hb C.2.2.1 hd.1)
  have k := K T' X' e'
  rw [hd.2] at k
  exact Go.step st k
theorem wput (C : Cur p l e s m meth c Z bc ml own nm rt) (X : Stand p l e R s m args below meth c T locs cells slots) {R0 O n d host C0 : String} {index kk : Nat} {ty : FieldType} (w : (Jvm.Cond.fieldLink own index R0 n d).before a0 Z = true ∨ (Jvm.Cond.fieldLinkNest own index R0 n d host).before a0 Z = true) (via : Via Z R0 O n d) (eT : T.heap = h) {a : Addr} {v old : Value} (F : Fld Z h a O n d old) (E : Exa Z h a C0)
    (L : (Jvm.Cond.lays C0 O n d).before a0 Z = true ∨ ((Jvm.Cond.laysFinal C0 O n d).before a0 Z = true ∧ own = O ∧ nm = "<init>")) (wi : (Jvm.Cond.instantiable C0 kk).before a0 Z = true) (hty : parseFieldDescriptor d = some ty) (hn : narrow ty v = v) (hf : fits ty v = true) (hd : Dec bc pc (.putfield index) 3 pc')
    (K : ∀ (T' : State) (h' : Heap), Stand p l e R s m args below meth c T' (locs ++ [⟨a, Jvm.RoadKit.slotOf Z O n d⟩]) cells slots → T'.heap = h' → Wr h h' a (Jvm.RoadKit.slotOf Z O n d) v → Go p e below s Q kC kS T' (mkF m pc' Ls S)) : Go p e below s Q kC kS T (mkF m pc Ls (v :: .ref a :: S)) := by
  obtain ⟨T', h', X', e', W, st⟩ := putF X C.1 C.2.1 C.2.2.2.2.1 w via eT F E (L.imp id fun q => ⟨q.1, q.2.1, C.2.2.2.2.2.2.2.trans q.2.2⟩) wi hty hn hf (g := mkF m pc Ls (v :: .ref a :: S)) rfl rfl (hb C.2.2.1 hd.1)
  have k := K T' h' X' e' W
  rw [hd.2] at k
  exact Go.step st k
theorem wputN (C : Cur p l e s m meth c Z bc ml own nm rt) (X : Stand p l e R s m args below meth c T locs cells slots) {R0 O n d C0 : String} {index kk : Nat} {ty : FieldType} (w : (Jvm.Cond.fieldLink own index R0 n d).before a0 Z = true) (via : Via Z R0 O n d) (eT : T.heap = h) {a : Addr} {v old : Value} (F : Fld Z h a O n d old) (E : Exa Z h a C0)
    (L : (Jvm.Cond.lays C0 O n d).before a0 Z = true ∨ ((Jvm.Cond.laysFinal C0 O n d).before a0 Z = true ∧ own = O ∧ nm = "<init>")) (wi : (Jvm.Cond.instantiable C0 kk).before a0 Z = true) (hty : parseFieldDescriptor d = some ty) (v' : Value) (hn : narrow ty v = v') (hf : fits ty v' = true) (hd : Dec bc pc (.putfield index) 3 pc')
    (K : ∀ (T' : State) (h' : Heap), Stand p l e R s m args below meth c T' (locs ++ [⟨a, Jvm.RoadKit.slotOf Z O n d⟩]) cells slots → T'.heap = h' → Wr h h' a (Jvm.RoadKit.slotOf Z O n d) v' → Go p e below s Q kC kS T' (mkF m pc' Ls S)) : Go p e below s Q kC kS T (mkF m pc Ls (v :: .ref a :: S)) := by
  obtain ⟨T', h', X', e', W, st⟩ := putFN X C.1 C.2.1 C.2.2.2.2.1 w via eT F E (L.imp id fun q => ⟨q.1, q.2.1, C.2.2.2.2.2.2.2.trans q.2.2⟩) wi hty hn hf (g := mkF m pc Ls (v :: .ref a :: S)) rfl rfl (hb C.2.2.1 hd.1)
  have k := K T' h' X' e' W
  rw [hd.2] at k
  exact Go.step st k
theorem wnew (C : Cur p l e s m meth c Z bc ml own nm rt) (X : Stand p l e R s m args below meth c T locs cells slots) {C0 : String} {index n : Nat} (w : (Jvm.Cond.classLink own index C0).before a0 Z = true) (wi : (Jvm.Cond.instantiable C0 n).before a0 Z = true) (wz : (Jvm.Cond.initialized C0).before a0 Z = true) (eT : T.heap = h) (hd : Dec bc pc (.new index) 3 pc') (hc : cells + 1 ≤ R.cells) (hl : slots + n ≤ R.slots)
    (K : ∀ (T' : State) (h' : Heap) (a : Addr), a = h.size → Stand p l e R s m args below meth c T' locs (cells + 1) (slots + n) → T'.heap = h' → Ext h h' → Exa Z h' a C0 → (∀ {O nm d : String} {ty : FieldType}, Laid Z a0 C0 O nm d → parseFieldDescriptor d = some ty → Fld Z h' a O nm d (defaultValue ty)) → Go p e below s Q kC kS T' (mkF m pc' Ls (.ref a :: S))) : Go p e below s Q kC kS T (mkF m pc Ls S) := by
  obtain ⟨T', h', X', e', E, A, D, -, st⟩ := newO X C.1 C.2.1 C.2.2.2.2.1 w wi wz eT (g := mkF m pc Ls S) rfl (hb C.2.2.1 hd.1) hc hl
  have k := K T' h' _ rfl X' e' E A D
  rw [hd.2] at k
  exact Go.step st k
theorem wnewarr (C : Cur p l e s m meth c Z bc ml own nm rt) (X : Stand p l e R s m args below meth c T locs cells slots) {aty : ArrayType} (w : (Jvm.Cond.arrayClass (newarray.typeOf aty)).before a0 Z = true) (eT : T.heap = h) {n : Int32} (hd : Dec bc pc (.newarray aty) 2 pc') (hn : ¬ n < 0) {cap : Nat} (hcap : n.toNatClampNeg ≤ cap) (hb' : cap * 8 ≤ 536870912) (hc : cells + 1 ≤ R.cells) (hl : slots + cap ≤ R.slots)
    (K : ∀ (T' : State) (h' : Heap) (a : Addr) (k : ClassId), a = h.size → Stand p l e R s m args below meth c T' locs (cells + 1) (slots + cap) → T'.heap = h' → Ext h h' → Arv Z h' a k (newarray.typeOf aty) n [] (defaultValue (newarray.typeOf aty)) → Go p e below s Q kC kS T' (mkF m pc' Ls (.ref a :: S))) : Go p e below s Q kC kS T (mkF m pc Ls (.int n :: S)) := by
  obtain ⟨T', h', kA, X', e', E, A, st⟩ := newP X C.1 C.2.1 w eT (g := mkF m pc Ls (.int n :: S)) rfl (hb C.2.2.1 hd.1) rfl hn hcap hb' hc hl
  have k := K T' h' _ kA rfl X' e' E (Arv.new A hn)
  rw [hd.2] at k
  exact Go.step st k
theorem wiaload (C : Cur p l e s m meth c Z bc ml own nm rt) (X : Stand p l e R s m args below meth c T locs cells slots) (eT : T.heap = h) {a : Addr} {ka : ClassId} {n j : Int32} {vs : List Value} {dv : Value} (V : Arv Z h a ka .int n vs dv) (hd : Dec bc pc .iaload 1 pc') (hj : ¬ j < 0 ∧ j < n) {i : Nat} (hi : j.toNatClampNeg = i) {v : Int32} (hv : vs.getD i dv = .int v) (g : Go p e below s Q kC kS T (mkF m pc' Ls (.int v :: S))) : Go p e below s Q kC kS T (mkF m pc Ls (.int j :: .ref a :: S)) := by
  obtain ⟨cl, A, -, hS, -, hH, -⟩ := V
  have hin := inb_of hS hj
  rw [hd.2] at g
  exact Go.step (fun t k => X.iaload C.1 (by rw [eT]; exact A.1) (State.isArrayOf_alike C.2.1.alike A.2.1) A.2.2 hin (hH.at hin (by rw [hi]; exact hv)) (g := mkF m pc Ls (.int j :: .ref a :: S)) rfl rfl (hb C.2.2.1 hd.1) t k) g
theorem wlaload (C : Cur p l e s m meth c Z bc ml own nm rt) (X : Stand p l e R s m args below meth c T locs cells slots) (eT : T.heap = h) {a : Addr} {ka : ClassId} {n j : Int32} {vs : List Value} {dv : Value} (V : Arv Z h a ka .long n vs dv) (hd : Dec bc pc .laload 1 pc') (hj : ¬ j < 0 ∧ j < n) {i : Nat} (hi : j.toNatClampNeg = i) {v : Int64} (hv : vs.getD i dv = .long v) (g : Go p e below s Q kC kS T (mkF m pc' Ls (.long v :: S))) : Go p e below s Q kC kS T (mkF m pc Ls (.int j :: .ref a :: S)) := by
  obtain ⟨cl, A, -, hS, -, hH, -⟩ := V
  have hin := inb_of hS hj
  rw [hd.2] at g
  exact Go.step (fun t k => X.laload C.1 (by rw [eT]; exact A.1) (State.isArrayOf_alike C.2.1.alike A.2.1) A.2.2 hin (hH.at hin (by rw [hi]; exact hv)) (g := mkF m pc Ls (.int j :: .ref a :: S)) rfl rfl (hb C.2.2.1 hd.1) t k) g
theorem wdaload (C : Cur p l e s m meth c Z bc ml own nm rt) (X : Stand p l e R s m args below meth c T locs cells slots) (eT : T.heap = h) {a : Addr} {ka : ClassId} {n j : Int32} {vs : List Value} {dv : Value} (V : Arv Z h a ka .double n vs dv) (hd : Dec bc pc .daload 1 pc') (hj : ¬ j < 0 ∧ j < n) {i : Nat} (hi : j.toNatClampNeg = i) {v : UInt64} (hv : vs.getD i dv = .double v) (g : Go p e below s Q kC kS T (mkF m pc' Ls (.double v :: S))) : Go p e below s Q kC kS T (mkF m pc Ls (.int j :: .ref a :: S)) := by
  obtain ⟨cl, A, -, hS, -, hH, -⟩ := V
  have hin := inb_of hS hj
  rw [hd.2] at g
  exact Go.step (fun t k => X.daload C.1 (by rw [eT]; exact A.1) (State.isArrayOf_alike C.2.1.alike A.2.1) A.2.2 hin (hH.at hin (by rw [hi]; exact hv)) (g := mkF m pc Ls (.int j :: .ref a :: S)) rfl rfl (hb C.2.2.1 hd.1) t k) g
theorem wcaload (C : Cur p l e s m meth c Z bc ml own nm rt) (X : Stand p l e R s m args below meth c T locs cells slots) (eT : T.heap = h) {a : Addr} {ka : ClassId} {n j : Int32} {vs : List Value} {dv : Value} (V : Arv Z h a ka .char n vs dv) (hd : Dec bc pc .caload 1 pc') (hj : ¬ j < 0 ∧ j < n) {i : Nat} (hi : j.toNatClampNeg = i) {v : Int32} (hv : vs.getD i dv = .int v) (g : Go p e below s Q kC kS T (mkF m pc' Ls (.int v :: S))) : Go p e below s Q kC kS T (mkF m pc Ls (.int j :: .ref a :: S)) := by
  obtain ⟨cl, A, -, hS, -, hH, -⟩ := V
  have hin := inb_of hS hj
  rw [hd.2] at g
  exact Go.step (fun t k => X.caload C.1 (by rw [eT]; exact A.1) (State.isArrayOf_alike C.2.1.alike A.2.1) A.2.2 hin (hH.at hin (by rw [hi]; exact hv)) (g := mkF m pc Ls (.int j :: .ref a :: S)) rfl rfl (hb C.2.2.1 hd.1) t k) g
theorem wbaloadB (C : Cur p l e s m meth c Z bc ml own nm rt) (X : Stand p l e R s m args below meth c T locs cells slots) (eT : T.heap = h) {a : Addr} {ka : ClassId} {n j : Int32} {vs : List Value} {dv : Value} (V : Arv Z h a ka .byte n vs dv) (hd : Dec bc pc .baload 1 pc') (hj : ¬ j < 0 ∧ j < n) {i : Nat} (hi : j.toNatClampNeg = i) {v : Int32} (hv : vs.getD i dv = .int v) (g : Go p e below s Q kC kS T (mkF m pc' Ls (.int v :: S))) : Go p e below s Q kC kS T (mkF m pc Ls (.int j :: .ref a :: S)) := by
  obtain ⟨cl, A, -, hS, -, hH, -⟩ := V
  have hin := inb_of hS hj
  rw [hd.2] at g
  exact Go.step (fun t k => X.baloadBytes C.1 (by rw [eT]; exact A.1) (State.isArrayOf_alike C.2.1.alike A.2.1) A.2.2 hin (hH.at hin (by rw [hi]; exact hv)) (g := mkF m pc Ls (.int j :: .ref a :: S)) rfl rfl (hb C.2.2.1 hd.1) t k) g
theorem wbaloadZ (C : Cur p l e s m meth c Z bc ml own nm rt) (X : Stand p l e R s m args below meth c T locs cells slots) (eT : T.heap = h) {a : Addr} {ka : ClassId} {n j : Int32} {vs : List Value} {dv : Value} (V : Arv Z h a ka .boolean n vs dv) (hd : Dec bc pc .baload 1 pc') (hj : ¬ j < 0 ∧ j < n) {i : Nat} (hi : j.toNatClampNeg = i) {v : Int32} (hv : vs.getD i dv = .int v) (g : Go p e below s Q kC kS T (mkF m pc' Ls (.int v :: S))) : Go p e below s Q kC kS T (mkF m pc Ls (.int j :: .ref a :: S)) := by
  obtain ⟨cl, A, -, hS, -, hH, -⟩ := V
  have hin := inb_of hS hj
  rw [hd.2] at g
  exact Go.step (fun t k => X.baloadBooleans C.1 (by rw [eT]; exact A.1) (State.isArrayOf_alike C.2.1.alike A.2.1) A.2.2 hin (hH.at hin (by rw [hi]; exact hv)) (g := mkF m pc Ls (.int j :: .ref a :: S)) rfl rfl (hb C.2.2.1 hd.1) t k) g
theorem waaload (C : Cur p l e s m meth c Z bc ml own nm rt) (X : Stand p l e R s m args below meth c T locs cells slots) (eT : T.heap = h) {a : Addr} {ka : ClassId} {ty : FieldType} {n j : Int32} {vs : List Value} {dv : Value} (V : Arv Z h a ka ty n vs dv) (hty : ty.isReference = true) (hd : Dec bc pc .aaload 1 pc') (hj : ¬ j < 0 ∧ j < n) {i : Nat} (hi : j.toNatClampNeg = i) {v : Value} (hv : vs.getD i dv = v) (g : Go p e below s Q kC kS T (mkF m pc' Ls (v :: S))) : Go p e below s Q kC kS T (mkF m pc Ls (.int j :: .ref a :: S)) := by
  obtain ⟨cl, A, -, hS, -, hH, -⟩ := V
  have hin := inb_of hS hj
  rw [hd.2] at g
  exact Go.step (fun t k => X.aaload C.1 (by rw [eT]; exact A.1) (State.isArrayOf_alike C.2.1.alike A.2.1) hty A.2.2 hin (hH.at hin (by rw [hi]; exact hv)) (g := mkF m pc Ls (.int j :: .ref a :: S)) rfl rfl (hb C.2.2.1 hd.1) t k) g
theorem walen (C : Cur p l e s m meth c Z bc ml own nm rt) (X : Stand p l e R s m args below meth c T locs cells slots) (eT : T.heap = h) {a : Addr} {ka : ClassId} {ty : FieldType} {n : Int32} {vs : List Value} {dv : Value} (V : Arv Z h a ka ty n vs dv) (hd : Dec bc pc .arraylength 1 pc') (g : Go p e below s Q kC kS T (mkF m pc' Ls (.int n :: S))) : Go p e below s Q kC kS T (mkF m pc Ls (.ref a :: S)) := by
  obtain ⟨cl, A, -, hS, hN, -, -⟩ := V
  rw [hd.2] at g
  exact Go.step (fun t k => X.arraylength C.1 (by rw [eT]; exact A.1) (State.isArrayOf_alike C.2.1.alike A.2.1) (g := mkF m pc Ls (.ref a :: S)) rfl rfl (hb C.2.2.1 hd.1) t (by rw [len_of hS hN]; exact k)) g
theorem wiastore (C : Cur p l e s m meth c Z bc ml own nm rt) (X : Stand p l e R s m args below meth c T locs cells slots) (eT : T.heap = h) {a : Addr} {ka : ClassId} {n j : Int32} {x : Int32} {vs : List Value} {dv : Value} (V : Arv Z h a ka .int n vs dv) (hd : Dec bc pc .iastore 1 pc') (hj : ¬ j < 0 ∧ j < n) (i : Nat) (hi : j.toNatClampNeg = i) (hlt : i < vs.length) (vs' : List Value) (hs : vs.set i (.int x) = vs')
    (K : ∀ (T' : State) (h' : Heap) (sl : Nat) (w : Value), Stand p l e R s m args below meth c T' (locs ++ [⟨a, sl⟩]) cells slots → T'.heap = h' → Wr h h' a sl w → Arv Z h' a ka .int n vs' dv → Go p e below s Q kC kS T' (mkF m pc' Ls S)) : Go p e below s Q kC kS T (mkF m pc Ls (.int x :: .int j :: .ref a :: S)) := by
  obtain ⟨cl, A, hk, hS, hN, hH, hG⟩ := V
  have hin := inb_of hS hj
  obtain ⟨T', h', X', e', W, st⟩ := stI X C.1 C.2.1 eT A hin (g := mkF m pc Ls (.int x :: .int j :: .ref a :: S)) rfl rfl (hb C.2.2.1 hd.1)
  have V' := Arv.set A hk hS hN hH hG rfl W i hi hlt
  subst hs
  have k := K T' h' _ _ X' e' W V'
  rw [hd.2] at k
  exact Go.step st k
theorem wlastore (C : Cur p l e s m meth c Z bc ml own nm rt) (X : Stand p l e R s m args below meth c T locs cells slots) (eT : T.heap = h) {a : Addr} {ka : ClassId} {n j : Int32} {x : Int64} {vs : List Value} {dv : Value} (V : Arv Z h a ka .long n vs dv) (hd : Dec bc pc .lastore 1 pc') (hj : ¬ j < 0 ∧ j < n) (i : Nat) (hi : j.toNatClampNeg = i) (hlt : i < vs.length) (vs' : List Value) (hs : vs.set i (.long x) = vs')
    (K : ∀ (T' : State) (h' : Heap) (sl : Nat) (w : Value), Stand p l e R s m args below meth c T' (locs ++ [⟨a, sl⟩]) cells slots → T'.heap = h' → Wr h h' a sl w → Arv Z h' a ka .long n vs' dv → Go p e below s Q kC kS T' (mkF m pc' Ls S)) : Go p e below s Q kC kS T (mkF m pc Ls (.long x :: .int j :: .ref a :: S)) := by
  obtain ⟨cl, A, hk, hS, hN, hH, hG⟩ := V
  have hin := inb_of hS hj
  obtain ⟨T', h', X', e', W, st⟩ := stJ X C.1 C.2.1 eT A hin (g := mkF m pc Ls (.long x :: .int j :: .ref a :: S)) rfl rfl (hb C.2.2.1 hd.1)
  have V' := Arv.set A hk hS hN hH hG rfl W i hi hlt
  subst hs
  have k := K T' h' _ _ X' e' W V'
  rw [hd.2] at k
  exact Go.step st k
theorem wdastore (C : Cur p l e s m meth c Z bc ml own nm rt) (X : Stand p l e R s m args below meth c T locs cells slots) (eT : T.heap = h) {a : Addr} {ka : ClassId} {n j : Int32} {x : UInt64} {vs : List Value} {dv : Value} (V : Arv Z h a ka .double n vs dv) (hd : Dec bc pc .dastore 1 pc') (hj : ¬ j < 0 ∧ j < n) (i : Nat) (hi : j.toNatClampNeg = i) (hlt : i < vs.length) (vs' : List Value) (hs : vs.set i (.double x) = vs')
    (K : ∀ (T' : State) (h' : Heap) (sl : Nat) (w : Value), Stand p l e R s m args below meth c T' (locs ++ [⟨a, sl⟩]) cells slots → T'.heap = h' → Wr h h' a sl w → Arv Z h' a ka .double n vs' dv → Go p e below s Q kC kS T' (mkF m pc' Ls S)) : Go p e below s Q kC kS T (mkF m pc Ls (.double x :: .int j :: .ref a :: S)) := by
  obtain ⟨cl, A, hk, hS, hN, hH, hG⟩ := V
  have hin := inb_of hS hj
  obtain ⟨T', h', X', e', W, st⟩ := stD X C.1 C.2.1 eT A hin (g := mkF m pc Ls (.double x :: .int j :: .ref a :: S)) rfl rfl (hb C.2.2.1 hd.1)
  have V' := Arv.set A hk hS hN hH hG rfl W i hi hlt
  subst hs
  have k := K T' h' _ _ X' e' W V'
  rw [hd.2] at k
  exact Go.step st k
theorem wcastore (C : Cur p l e s m meth c Z bc ml own nm rt) (X : Stand p l e R s m args below meth c T locs cells slots) (eT : T.heap = h) {a : Addr} {ka : ClassId} {n j : Int32} {x : Int32} {vs : List Value} {dv : Value} (V : Arv Z h a ka .char n vs dv) (hd : Dec bc pc .castore 1 pc') (hj : ¬ j < 0 ∧ j < n) (i : Nat) (hi : j.toNatClampNeg = i) (hlt : i < vs.length) (vs' : List Value) (hs : vs.set i (.int (nar .char x)) = vs')
    (K : ∀ (T' : State) (h' : Heap) (sl : Nat) (w : Value), Stand p l e R s m args below meth c T' (locs ++ [⟨a, sl⟩]) cells slots → T'.heap = h' → Wr h h' a sl w → Arv Z h' a ka .char n vs' dv → Go p e below s Q kC kS T' (mkF m pc' Ls S)) : Go p e below s Q kC kS T (mkF m pc Ls (.int x :: .int j :: .ref a :: S)) := by
  obtain ⟨cl, A, hk, hS, hN, hH, hG⟩ := V
  have hin := inb_of hS hj
  obtain ⟨T', h', X', e', W, st⟩ := stC X C.1 C.2.1 eT A hin (g := mkF m pc Ls (.int x :: .int j :: .ref a :: S)) rfl rfl (hb C.2.2.1 hd.1)
  have V' := Arv.set A hk hS hN hH hG (fits_nar_char _) W i hi hlt
  subst hs
  have k := K T' h' _ _ X' e' W V'
  rw [hd.2] at k
  exact Go.step st k
theorem wbastoreB (C : Cur p l e s m meth c Z bc ml own nm rt) (X : Stand p l e R s m args below meth c T locs cells slots) (eT : T.heap = h) {a : Addr} {ka : ClassId} {n j : Int32} {x : Int32} {vs : List Value} {dv : Value} (V : Arv Z h a ka .byte n vs dv) (hd : Dec bc pc .bastore 1 pc') (hj : ¬ j < 0 ∧ j < n) (i : Nat) (hi : j.toNatClampNeg = i) (hlt : i < vs.length) (vs' : List Value) (hs : vs.set i (.int x.toInt8.toInt32) = vs')
    (K : ∀ (T' : State) (h' : Heap) (sl : Nat) (w : Value), Stand p l e R s m args below meth c T' (locs ++ [⟨a, sl⟩]) cells slots → T'.heap = h' → Wr h h' a sl w → Arv Z h' a ka .byte n vs' dv → Go p e below s Q kC kS T' (mkF m pc' Ls S)) : Go p e below s Q kC kS T (mkF m pc Ls (.int x :: .int j :: .ref a :: S)) := by
  obtain ⟨cl, A, hk, hS, hN, hH, hG⟩ := V
  have hin := inb_of hS hj
  obtain ⟨T', h', X', e', W, st⟩ := stB X C.1 C.2.1 eT A hin (g := mkF m pc Ls (.int x :: .int j :: .ref a :: S)) rfl rfl (hb C.2.2.1 hd.1)
  have V' := Arv.set A hk hS hN hH hG (fits_nar_byte _) W i hi hlt
  subst hs
  have k := K T' h' _ _ X' e' W V'
  rw [hd.2] at k
  exact Go.step st k
theorem wbastoreZ (C : Cur p l e s m meth c Z bc ml own nm rt) (X : Stand p l e R s m args below meth c T locs cells slots) (eT : T.heap = h) {a : Addr} {ka : ClassId} {n j : Int32} {x : Int32} {vs : List Value} {dv : Value} (V : Arv Z h a ka .boolean n vs dv) (hd : Dec bc pc .bastore 1 pc') (hj : ¬ j < 0 ∧ j < n) (i : Nat) (hi : j.toNatClampNeg = i) (hlt : i < vs.length) (vs' : List Value) (hs : vs.set i (.int (nar .boolean x)) = vs')
    (K : ∀ (T' : State) (h' : Heap) (sl : Nat) (w : Value), Stand p l e R s m args below meth c T' (locs ++ [⟨a, sl⟩]) cells slots → T'.heap = h' → Wr h h' a sl w → Arv Z h' a ka .boolean n vs' dv → Go p e below s Q kC kS T' (mkF m pc' Ls S)) : Go p e below s Q kC kS T (mkF m pc Ls (.int x :: .int j :: .ref a :: S)) := by
  obtain ⟨cl, A, hk, hS, hN, hH, hG⟩ := V
  have hin := inb_of hS hj
  obtain ⟨T', h', X', e', W, st⟩ := stZ X C.1 C.2.1 eT A hin (g := mkF m pc Ls (.int x :: .int j :: .ref a :: S)) rfl rfl (hb C.2.2.1 hd.1)
  have V' := Arv.set A hk hS hN hH hG (fits_nar_bool _) W i hi hlt
  subst hs
  have k := K T' h' _ _ X' e' W V'
  rw [hd.2] at k
  exact Go.step st k
theorem winitO (C : Cur p l e s m meth c Z bc ml own nm rt) (X : Stand p l e R s m args below meth c T locs cells slots) {index : Nat} (w1 : (Jvm.Cond.methodLink own index Lib.objectInit).before a0 Z = true) (w2 : (Jvm.Cond.instanceMethod Lib.objectInit).before a0 Z = true) (w3 : (Jvm.Cond.code Lib.objectInit ⟨#[0xb1]⟩ 1 none).before a0 Z = true) (eT : T.heap = h) {a : Addr} (hd : Dec bc pc (.invokespecial index) 3 pc') (hsz : Ls.size = ml) (hf : 1 ≤ R.frames) {W : Nat} (hW : (S.map fun v => v.category).sum ≤ W) (hl : W + 12 ≤ R.locals)
    (K : ∀ T' : State, Stand p l e R s m args below meth c T' locs cells slots → T'.heap = h → Go p e below s Q kC kS T' (mkF m pc' Ls S)) : Go p e below s Q kC kS T (mkF m pc Ls (.ref a :: S)) := by
  obtain ⟨T', X', e', st⟩ := initO X C.1 C.2.1 C.2.2.2.2.1 w1 w2 w3 eT (g := mkF m pc Ls (.ref a :: S)) rfl (hsz.trans C.2.2.2.1.symm) rfl (hb C.2.2.1 hd.1) hf (W := W) (by show 2 * 0 + _ ≤ _; simpa using hW) hl
  have k := K T' X' e'
  rw [hd.2] at k
  exact Go.step st k
theorem wspecial (C : Cur p l e s m meth c Z bc ml own nm rt) (X : Stand p l e R s m args below meth c T locs cells slots) {y : MethodName} {bytes : ByteArray} {maxL : Nat} {ret : Option FieldType} {rm : Room} {as' : Array Value} {Qc : Option Value → Heap → List Loc → Prop} {index : Nat} (hy1 : y.name = "<init>") (w1 : (Jvm.Cond.methodLink own index y).before a0 Z = true) (w2 : (Jvm.Cond.instanceMethod y).before a0 Z = true) (w3 : (Jvm.Cond.code y bytes maxL ret).before a0 Z = true) (w4 : (Jvm.Cond.initialized y.cls).before a0 Z = true) (hret : ret = none) (hy : y.cls ≠ "java/lang/invoke/MethodHandle" ∧ y.cls ≠ "java/lang/invoke/VarHandle")
    (hM : MetFree l y (head1 [Jvm.Cond.code y bytes maxL ret] rm) (fun a U => a = as' ∧ Z.Warmed39 U.vm ∧ U.heap = h) (fun _ _ _ _ _ => True) (fun _ U o U' => ∃ v L, o = .returned v ∧ Qc v U'.heap L ∧ FrameEnd U o U' L rm.cells rm.slots)) (eT : T.heap = h) (hd : Dec bc pc (.invokespecial index) 3 pc') {a : Addr} {argsL rest St : List Value} (has : as' = (.ref a :: argsL).toArray) (hst : St = argsL.reverse ++ .ref a :: rest) (hlen : ∀ sig, parseMethodDescriptor y.desc = some sig → argsL.length = sig.parameters.length) (hsz : Ls.size = ml) {W : Nat} (hW : (rest.map fun v => v.category).sum ≤ W) (hf : rm.frames + 1 ≤ R.frames) (hl : W + (maxL + 11) + rm.locals ≤ R.locals) (hc : cells + rm.cells ≤ R.cells) (hs : slots + rm.slots ≤ R.slots)
    (K : ∀ (v : Option Value) (T' : State) (L' : List Loc), Stand p l e R s m args below meth c T' (locs ++ L') (cells + rm.cells) (slots + rm.slots) → Qc v T'.heap L' → Go p e below s Q kC kS T' (mkF m pc' Ls (v.toList ++ rest))) : Go p e below s Q kC kS T (mkF m pc Ls St) := by
  subst hret
  obtain ⟨v, _, ⟨T', L', k', n'⟩, -, X', ⟨Lc, hQ, l', y', z'⟩, st⟩ := X.specialBack C.1 (y := y) hy1 C.2.2.2.2.1 (mvT C.2.1 w1) (mvT C.2.1 w2) (mvT C.2.1 w3) hy (backOf (W := W) hM C.2.1 w3 w4 hf hl) (g := mkF m pc Ls St) rfl (hsz.trans C.2.2.2.1.symm) (Steps.refl _) (a := a) (argsL := argsL) (rest := rest) hlen hst (by show 2 * 0 + _ ≤ _; simpa using hW) (hb C.2.2.1 hd.1) (fun _ _ => ⟨has.symm, eT, hc, hs⟩)
  dsimp only [Pt.U, Pt.locs, Pt.cells, Pt.slots] at X' l' y' z' st hQ
  subst l' y' z'
  have k := K v T' Lc X' hQ
  rw [hd.2] at k
  exact Go.step (fun t k => st.trans k) k
theorem wvirtual (C : Cur p l e s m meth c Z bc ml own nm rt) (X : Stand p l e R s m args below meth c T locs cells slots) {y z : MethodName} {C0 : String} {bytes : ByteArray} {maxL : Nat} {ret : Option FieldType} {rm : Room} {as' : Array Value} {Qc : Option Value → Heap → List Loc → Prop} {index : Nat} (w1 : (Jvm.Cond.methodLink own index y).before a0 Z = true) (w2 : (Jvm.Cond.declares y).before a0 Z = true) (hnf : NotFace s y) (w3 : (Jvm.Cond.selects C0 y z).before a0 Z = true) (w4 : (Jvm.Cond.instanceMethod z).before a0 Z = true) (w5 : (Jvm.Cond.code z bytes maxL ret).before a0 Z = true) (w6 : (Jvm.Cond.initialized z.cls).before a0 Z = true) (hy : y.cls ≠ "java/lang/invoke/MethodHandle" ∧ y.cls ≠ "java/lang/invoke/VarHandle")
    (hM : MetFree l z (head1 [Jvm.Cond.code z bytes maxL ret] rm) (fun a U => a = as' ∧ Z.Warmed39 U.vm ∧ U.heap = h) (fun _ _ _ _ _ => True) (fun _ U o U' => ∃ v L, o = .returned v ∧ Qc v U'.heap L ∧ FrameEnd U o U' L rm.cells rm.slots)) (eT : T.heap = h) {a : Addr} (E : Exa Z h a C0) (hd : Dec bc pc (.invokevirtual index) 3 pc') {argsL rest St : List Value} (has : as' = (.ref a :: argsL).toArray) (hst : St = argsL.reverse ++ .ref a :: rest) (hlen : ∀ sig, parseMethodDescriptor y.desc = some sig → argsL.length = sig.parameters.length) (hsz : Ls.size = ml) {W : Nat} (hW : (rest.map fun v => v.category).sum ≤ W) (hf : rm.frames + 1 ≤ R.frames) (hl : W + (maxL + 11) + rm.locals ≤ R.locals) (hc : cells + rm.cells ≤ R.cells) (hs : slots + rm.slots ≤ R.slots)
    (K : ∀ (v : Option Value) (T' : State) (L' : List Loc), Stand p l e R s m args below meth c T' (locs ++ L') (cells + rm.cells) (slots + rm.slots) → Qc v T'.heap L' → Go p e below s Q kC kS T' (mkF m pc' Ls (v.toList ++ rest))) : Go p e below s Q kC kS T (mkF m pc Ls St) := by
  obtain ⟨cB, kB, q1, q2, q3⟩ := isOf C.2.1 eT E
  obtain ⟨v, _, ⟨T', L', k', n'⟩, -, X', ⟨Lc, hQ, l', y', z'⟩, st⟩ := X.virtualBack C.1 (y := y) (z := z) C.2.2.2.2.1 (mvT C.2.1 w1) (mvT C.2.1 w2) hnf (mvT C.2.1 w3) (mvT C.2.1 w4) hy (backOf (W := W) hM C.2.1 w5 w6 hf hl) q1 q3 (g := mkF m pc Ls St) rfl (hsz.trans C.2.2.2.1.symm) (Steps.refl _) (argsL := argsL) (rest := rest) hlen hst (by show 2 * 0 + _ ≤ _; simpa using hW) (hb C.2.2.1 hd.1) (fun _ _ => ⟨has.symm, eT, hc, hs⟩)
  dsimp only [Pt.U, Pt.locs, Pt.cells, Pt.slots] at X' l' y' z' st hQ
  subst l' y' z'
  have k := K v T' Lc X' hQ
  rw [hd.2] at k
  exact Go.step (fun t k => st.trans k) k
theorem own_selp {y : MethodName} {nI : Nat} (hZ : Z.Warmed39 s.vm) (wi : (Jvm.Cond.instantiable y.cls nI).before a0 Z = true) (wp : (Jvm.Cond.privateMethod y).before a0 Z = true) (w2 : (Jvm.Cond.instanceMethod y).before a0 Z = true) (hy : y.cls ≠ "java/lang/invoke/MethodHandle" ∧ y.cls ≠ "java/lang/invoke/VarHandle") : (Jvm.Cond.selects y.cls y y).before args s = true := by
  obtain ⟨c', k', h1, h2, -, h4, -⟩ := Cond.instantiable_spec (mvT (args := args) hZ wi)
  exact selects_self_of_private h1 h2 (by simp only [Bool.or_eq_false_iff] at h4; exact h4.1) (Cond.privateMethod_at (mvP hZ wp (args := args))) (mvT hZ w2) hy
theorem wprivate (C : Cur p l e s m meth c Z bc ml own nm rt) (X : Stand p l e R s m args below meth c T locs cells slots) {y : MethodName} {bytes : ByteArray} {maxL : Nat} {ret : Option FieldType} {rm : Room} {as' : Array Value} {Qc : Option Value → Heap → List Loc → Prop} {index : Nat} (w1 : (Jvm.Cond.methodLink own index y).before a0 Z = true) (w2 : (Jvm.Cond.instanceMethod y).before a0 Z = true) (w3 : (Jvm.Cond.selects y.cls y y).before a0 Z = true) (w4 : (Jvm.Cond.privateMethod y).before a0 Z = true) (w5 : (Jvm.Cond.code y bytes maxL ret).before a0 Z = true) (w6 : (Jvm.Cond.initialized y.cls).before a0 Z = true) (hy : y.cls ≠ "java/lang/invoke/MethodHandle" ∧ y.cls ≠ "java/lang/invoke/VarHandle")
    (hM : MetFree l y (head1 [Jvm.Cond.code y bytes maxL ret] rm) (fun a U => a = as' ∧ Z.Warmed39 U.vm ∧ U.heap = h) (fun _ _ _ _ _ => True) (fun _ U o U' => ∃ v L, o = .returned v ∧ Qc v U'.heap L ∧ FrameEnd U o U' L rm.cells rm.slots)) (eT : T.heap = h) {a : Addr} {C0 : String} (E : Exa Z h a C0) (hd : Dec bc pc (.invokevirtual index) 3 pc') {argsL rest St : List Value} (has : as' = (.ref a :: argsL).toArray) (hst : St = argsL.reverse ++ .ref a :: rest) (hlen : ∀ sig, parseMethodDescriptor y.desc = some sig → argsL.length = sig.parameters.length) (hsz : Ls.size = ml) {W : Nat} (hW : (rest.map fun v => v.category).sum ≤ W) (hf : rm.frames + 1 ≤ R.frames) (hl : W + (maxL + 11) + rm.locals ≤ R.locals) (hc : cells + rm.cells ≤ R.cells) (hs : slots + rm.slots ≤ R.slots)
    (K : ∀ (v : Option Value) (T' : State) (L' : List Loc), Stand p l e R s m args below meth c T' (locs ++ L') (cells + rm.cells) (slots + rm.slots) → Qc v T'.heap L' → Go p e below s Q kC kS T' (mkF m pc' Ls (v.toList ++ rest))) : Go p e below s Q kC kS T (mkF m pc Ls St) := by
  obtain ⟨cq, q1, q2⟩ := E.cell
  obtain ⟨v, _, ⟨T', L', k', n'⟩, -, X', ⟨Lc, hQ, l', y', z'⟩, st⟩ := X.privateBack C.1 (y := y) C.2.2.2.2.1 (mvT C.2.1 w1) (mvT C.2.1 w2) (mvT C.2.1 w3) (Cond.privateMethod_at (mvP C.2.1 w4 (args := #[]))) (mvT C.2.1 w5) hy (backOf (W := W) hM C.2.1 w5 w6 hf hl) (g := mkF m pc Ls St) rfl (hsz.trans C.2.2.2.1.symm) (Steps.refl _) (a := a) (by rw [eT]; exact q1) q2 (argsL := argsL) (rest := rest) hlen hst (by show 2 * 0 + _ ≤ _; simpa using hW) (hb C.2.2.1 hd.1) (fun _ _ => ⟨has.symm, eT, hc, hs⟩)
  dsimp only [Pt.U, Pt.locs, Pt.cells, Pt.slots] at X' l' y' z' st hQ
  subst l' y' z'
  have k := K v T' Lc X' hQ
  rw [hd.2] at k
  exact Go.step (fun t k => st.trans k) k
theorem wprivateI (C : Cur p l e s m meth c Z bc ml own nm rt) (X : Stand p l e R s m args below meth c T locs cells slots) {y : MethodName} {bytes : ByteArray} {maxL : Nat} {ret : Option FieldType} {rm : Room} {as' : Array Value} {Qc : Option Value → Heap → List Loc → Prop} {index : Nat} (w1 : (Jvm.Cond.methodLink own index y).before a0 Z = true) (w2 : (Jvm.Cond.instanceMethod y).before a0 Z = true) {nI : Nat} (w3 : (Jvm.Cond.instantiable y.cls nI).before a0 Z = true) (w4 : (Jvm.Cond.privateMethod y).before a0 Z = true) (w5 : (Jvm.Cond.code y bytes maxL ret).before a0 Z = true) (w6 : (Jvm.Cond.initialized y.cls).before a0 Z = true) (hy : y.cls ≠ "java/lang/invoke/MethodHandle" ∧ y.cls ≠ "java/lang/invoke/VarHandle")
    (hM : MetFree l y (head1 [Jvm.Cond.code y bytes maxL ret] rm) (fun a U => a = as' ∧ Z.Warmed39 U.vm ∧ U.heap = h) (fun _ _ _ _ _ => True) (fun _ U o U' => ∃ v L, o = .returned v ∧ Qc v U'.heap L ∧ FrameEnd U o U' L rm.cells rm.slots)) (eT : T.heap = h) {a : Addr} {C0 : String} (E : Exa Z h a C0) (hd : Dec bc pc (.invokevirtual index) 3 pc') {argsL rest St : List Value} (has : as' = (.ref a :: argsL).toArray) (hst : St = argsL.reverse ++ .ref a :: rest) (hlen : ∀ sig, parseMethodDescriptor y.desc = some sig → argsL.length = sig.parameters.length) (hsz : Ls.size = ml) {W : Nat} (hW : (rest.map fun v => v.category).sum ≤ W) (hf : rm.frames + 1 ≤ R.frames) (hl : W + (maxL + 11) + rm.locals ≤ R.locals) (hc : cells + rm.cells ≤ R.cells) (hs : slots + rm.slots ≤ R.slots)
    (K : ∀ (v : Option Value) (T' : State) (L' : List Loc), Stand p l e R s m args below meth c T' (locs ++ L') (cells + rm.cells) (slots + rm.slots) → Qc v T'.heap L' → Go p e below s Q kC kS T' (mkF m pc' Ls (v.toList ++ rest))) : Go p e below s Q kC kS T (mkF m pc Ls St) := by
  obtain ⟨cq, q1, q2⟩ := E.cell
  obtain ⟨v, _, ⟨T', L', k', n'⟩, -, X', ⟨Lc, hQ, l', y', z'⟩, st⟩ := X.privateBack C.1 (y := y) C.2.2.2.2.1 (mvT C.2.1 w1) (mvT C.2.1 w2) (own_selp C.2.1 w3 w4 w2 hy) (Cond.privateMethod_at (mvP C.2.1 w4 (args := #[]))) (mvT C.2.1 w5) hy (backOf (W := W) hM C.2.1 w5 w6 hf hl) (g := mkF m pc Ls St) rfl (hsz.trans C.2.2.2.1.symm) (Steps.refl _) (a := a) (by rw [eT]; exact q1) q2 (argsL := argsL) (rest := rest) hlen hst (by show 2 * 0 + _ ≤ _; simpa using hW) (hb C.2.2.1 hd.1) (fun _ _ => ⟨has.symm, eT, hc, hs⟩)
  dsimp only [Pt.U, Pt.locs, Pt.cells, Pt.slots] at X' l' y' z' st hQ
  subst l' y' z'
  have k := K v T' Lc X' hQ
  rw [hd.2] at k
  exact Go.step (fun t k => st.trans k) k
theorem wstatic (C : Cur p l e s m meth c Z bc ml own nm rt) (X : Stand p l e R s m args below meth c T locs cells slots) {y : MethodName} {bytes : ByteArray} {maxL : Nat} {ret : Option FieldType} {rm : Room} {as' : Array Value} {Qc : Option Value → Heap → List Loc → Prop} {index : Nat} (w1 : (Jvm.Cond.methodLink own index y).before a0 Z = true) (w2 : (Jvm.Cond.static y).before a0 Z = true) (w3 : (Jvm.Cond.initialized y.cls).before a0 Z = true) (w4 : (Jvm.Cond.code y bytes maxL ret).before a0 Z = true) (hy : y.cls ≠ "java/lang/invoke/MethodHandle" ∧ y.cls ≠ "java/lang/invoke/VarHandle")
    (hM : MetFree l y (head1 [Jvm.Cond.code y bytes maxL ret] rm) (fun a U => a = as' ∧ Z.Warmed39 U.vm ∧ U.heap = h) (fun _ _ _ _ _ => True) (fun _ U o U' => ∃ v L, o = .returned v ∧ Qc v U'.heap L ∧ FrameEnd U o U' L rm.cells rm.slots)) (eT : T.heap = h) (hd : Dec bc pc (.invokestatic index) 3 pc') {argsL rest St : List Value} (has : as' = argsL.toArray) (hst : St = argsL.reverse ++ rest) (hlen : ∀ sig, parseMethodDescriptor y.desc = some sig → argsL.length = sig.parameters.length) (hsz : Ls.size = ml) {W : Nat} (hW : (rest.map fun v => v.category).sum ≤ W) (hf : rm.frames + 1 ≤ R.frames) (hl : W + (maxL + 11) + rm.locals ≤ R.locals) (hc : cells + rm.cells ≤ R.cells) (hs : slots + rm.slots ≤ R.slots)
    (K : ∀ (v : Option Value) (T' : State) (L' : List Loc), Stand p l e R s m args below meth c T' (locs ++ L') (cells + rm.cells) (slots + rm.slots) → Qc v T'.heap L' → Go p e below s Q kC kS T' (mkF m pc' Ls (v.toList ++ rest))) : Go p e below s Q kC kS T (mkF m pc Ls St) := by
  obtain ⟨v, _, ⟨T', L', k', n'⟩, -, X', ⟨Lc, hQ, l', y', z'⟩, st⟩ := Jvm.LawKit.callS X C.1 (y := y) C.2.2.2.2.1 (mvT C.2.1 w1) (mvT C.2.1 w2) (mvT C.2.1 w3) (mvT C.2.1 w4) hy (backOf (W := W) hM C.2.1 w4 w3 hf hl) (g := mkF m pc Ls St) rfl (hsz.trans C.2.2.2.1.symm) (argsL := argsL) (rest := rest) hlen hst (by show 2 * 0 + _ ≤ _; simpa using hW) (hb C.2.2.1 hd.1) (fun _ _ => ⟨has.symm, eT, hc, hs⟩)
  dsimp only [Pt.U, Pt.locs, Pt.cells, Pt.slots] at X' l' y' z' st hQ
  subst l' y' z'
  have k := K v T' Lc X' hQ
  rw [hd.2] at k
  exact Go.step (st) k
theorem Go.mono {Q' : Option Value → Heap → List Loc → Prop} {f : JFrame} (g : Go p e below s Q kC kS T f) (q : ∀ v h L, Q v h L → Q' v h L) : Go p e below s Q' kC kS T f := by
  obtain ⟨s₂, o, h1, h2, h3, v, L, h4, h5, h6⟩ := g; exact ⟨s₂, o, h1, h2, h3, v, L, h4, q _ _ _ h5, h6⟩
theorem wldcI (C : Cur p l e s m meth c Z bc ml own nm rt) (X : Stand p l e R s m args below meth c T locs cells slots) {index : Nat} {b : Int32} (w : (Jvm.Cond.constant own index b).before a0 Z = true) (hd : Dec bc pc (.ldc index) 2 pc') (g : Go p e below s Q kC kS T (mkF m pc' Ls (.int b :: S))) : Go p e below s Q kC kS T (mkF m pc Ls S) := by
  rw [hd.2] at g
  exact Go.step (X.ldcInt C.1 C.2.2.2.2.1 (mvT C.2.1 w) (g := mkF m pc Ls S) rfl (hb C.2.2.1 hd.1)) g
theorem wldcwI (C : Cur p l e s m meth c Z bc ml own nm rt) (X : Stand p l e R s m args below meth c T locs cells slots) {index : Nat} {b : Int32} (w : (Jvm.Cond.constant own index b).before a0 Z = true) (hd : Dec bc pc (.ldc_w index) 3 pc') (g : Go p e below s Q kC kS T (mkF m pc' Ls (.int b :: S))) : Go p e below s Q kC kS T (mkF m pc Ls S) := by
  rw [hd.2] at g
  exact Go.step (X.ldcwInt C.1 C.2.2.2.2.1 (mvT C.2.1 w) (g := mkF m pc Ls S) rfl (hb C.2.2.1 hd.1)) g
theorem wldc2J (C : Cur p l e s m meth c Z bc ml own nm rt) (X : Stand p l e R s m args below meth c T locs cells slots) {index : Nat} {b : Int64} (w : (Jvm.Cond.constantLong own index b).before a0 Z = true) (hd : Dec bc pc (.ldc2_w index) 3 pc') (g : Go p e below s Q kC kS T (mkF m pc' Ls (.long b :: S))) : Go p e below s Q kC kS T (mkF m pc Ls S) := by
  rw [hd.2] at g
  exact Go.step (X.ldc2Long C.1 C.2.2.2.2.1 (mvT C.2.1 w) (g := mkF m pc Ls S) rfl (hb C.2.2.1 hd.1)) g
theorem wldc2D (C : Cur p l e s m meth c Z bc ml own nm rt) (X : Stand p l e R s m args below meth c T locs cells slots) {index : Nat} {b : UInt64} (w : (Jvm.Cond.constantDouble own index b).before a0 Z = true) (hd : Dec bc pc (.ldc2_w index) 3 pc') (g : Go p e below s Q kC kS T (mkF m pc' Ls (.double b :: S))) : Go p e below s Q kC kS T (mkF m pc Ls S) := by
  rw [hd.2] at g
  exact Go.step (X.ldc2DoubleC C.1 C.2.2.2.2.1 (mvT C.2.1 w) (g := mkF m pc Ls S) rfl (hb C.2.2.1 hd.1)) g
theorem wmaxD (C : Cur p l e s m meth c Z bc ml own nm rt) (X : Stand p l e R s m args below meth c T locs cells slots) {index : Nat} {x y : UInt64} (w1 : (Jvm.Cond.methodLink own index Jvm.Free.Fl.Abs.maxDN).before a0 Z = true) (w2 : (Jvm.Cond.static Jvm.Free.Fl.Abs.maxDN).before a0 Z = true) (w3 : (Jvm.Cond.initialized Jvm.Free.Fl.Abs.maxDN.cls).before a0 Z = true) (w4 : (Jvm.Cond.code Jvm.Free.Fl.Abs.maxDN Jvm.Free.Fl.Abs.maxDCode 4 (some .double)).before a0 Z = true)
    (eT : T.heap = h) (hd : Dec bc pc (.invokestatic index) 3 pc') (nx : Jvm.Free.Fl.NoNaN64 x) (ny : Jvm.Free.Fl.NoNaN64 y) (hsz : Ls.size = ml) {W : Nat} (hW : (S.map fun v => v.category).sum ≤ W) (hf : 1 ≤ R.frames) (hl : W + 15 ≤ R.locals) (hc : cells ≤ R.cells) (hs : slots ≤ R.slots)
    (K : ∀ T' : State, Stand p l e R s m args below meth c T' locs cells slots → T'.heap = h → Go p e below s Q kC kS T' (mkF m pc' Ls (.double (Jvm.Native.java_lang_Math.nans.pick64 true x y) :: S))) : Go p e below s Q kC kS T (mkF m pc Ls (.double y :: .double x :: S)) := by
  obtain ⟨T', X', e', st⟩ := natS X C.1 C.2.1 C.2.2.2.2.1 w1 w2 w3 w4 (by decide) eT (W := W) (F := fun a' => a' = #[.double x, .double y] ∧ Jvm.Free.Fl.NoNaN64 x ∧ Jvm.Free.Fl.NoNaN64 y) (fun c4 => Jvm.Free.Fl.Abs.maxD_pays x y c4 hf hl) (g := mkF m pc Ls (.double y :: .double x :: S)) rfl (hsz.trans C.2.2.2.1.symm) (argsL := [.double x, .double y]) (rest := S) (lenOf (show parseMethodDescriptor "(DD)D" = some ⟨[.double, .double], some .double⟩ by decide +kernel) rfl) rfl (by show 2 * 0 + _ ≤ _; simpa using hW) (hb C.2.2.1 hd.1) hc hs ⟨rfl, nx, ny⟩ rfl
  have k := K T' X' e'
  rw [hd.2] at k
  exact Go.step st k
end Kit
section Kit2
variable {p : Program} {e : Env} {below : List Frame} {s : State} {Q : Option Value → Heap → List Loc → Prop} {kC kS : Nat} {T : State} {m : MethodId} {pc : Nat} {Ls : Array Slot} {S : List Value}
theorem own_foldI {x z : Int32} (q : x = z) (g : Go p e below s Q kC kS T (mkF m pc Ls (.int z :: S))) : Go p e below s Q kC kS T (mkF m pc Ls (.int x :: S)) := q ▸ g
theorem own_foldJ {x z : Int64} (q : x = z) (g : Go p e below s Q kC kS T (mkF m pc Ls (.long z :: S))) : Go p e below s Q kC kS T (mkF m pc Ls (.long x :: S)) := q ▸ g
theorem own_foldD {x z : UInt64} (q : x = z) (g : Go p e below s Q kC kS T (mkF m pc Ls (.double z :: S))) : Go p e below s Q kC kS T (mkF m pc Ls (.double x :: S)) := q ▸ g
end Kit2
theorem tw_0 {Z : State} {a0 : Array Value} (hw : ∀ d ∈ tables_1, d.before a0 Z = true) : (Jvm.Cond.arrayClass Jvm.ClassFile.FieldType.double).before a0 Z = true := hw _ (List.mem_of_getElem? (i := 0) rfl)
theorem tw_1 {Z : State} {a0 : Array Value} (hw : ∀ d ∈ tables_1, d.before a0 Z = true) : (Jvm.Cond.classLink "com/example/arbor_center/arborcenter/objective/UpperEnvelopeAddPinLaw" (7 : Nat) "com/example/arbor_center/arborcenter/objective/UpperEnvelope").before a0 Z = true := hw _ (List.mem_of_getElem? (i := 1) rfl)
theorem tw_2 {Z : State} {a0 : Array Value} (hw : ∀ d ∈ tables_1, d.before a0 Z = true) : (Jvm.Cond.instantiable "com/example/arbor_center/arborcenter/objective/UpperEnvelope" (3 : Nat)).before a0 Z = true := hw _ (List.mem_of_getElem? (i := 2) rfl)
theorem tw_3 {Z : State} {a0 : Array Value} (hw : ∀ d ∈ tables_1, d.before a0 Z = true) : (Jvm.Cond.initialized "com/example/arbor_center/arborcenter/objective/UpperEnvelope").before a0 Z = true := hw _ (List.mem_of_getElem? (i := 3) rfl)
theorem tw_4 {Z : State} {a0 : Array Value} (hw : ∀ d ∈ tables_1, d.before a0 Z = true) : (Jvm.Cond.methodLink "com/example/arbor_center/arborcenter/objective/UpperEnvelopeAddPinLaw" (9 : Nat) ({ cls := "com/example/arbor_center/arborcenter/objective/UpperEnvelope", name := "<init>", desc := "(I)V" } : Jvm.MethodName)).before a0 Z = true := hw _ (List.mem_of_getElem? (i := 4) rfl)
theorem tw_5 {Z : State} {a0 : Array Value} (hw : ∀ d ∈ tables_1, d.before a0 Z = true) : (Jvm.Cond.instanceMethod ({ cls := "com/example/arbor_center/arborcenter/objective/UpperEnvelope", name := "<init>", desc := "(I)V" } : Jvm.MethodName)).before a0 Z = true := hw _ (List.mem_of_getElem? (i := 5) rfl)
theorem tw_6 {Z : State} {a0 : Array Value} (hw : ∀ d ∈ tables_1, d.before a0 Z = true) : (Jvm.Cond.code ({ cls := "com/example/arbor_center/arborcenter/objective/UpperEnvelope", name := "<init>", desc := "(I)V" } : Jvm.MethodName) prog_12_method_1_code (2 : Nat) (Option.none : Option Jvm.ClassFile.FieldType)).before a0 Z = true := hw _ (List.mem_of_getElem? (i := 6) rfl)
theorem tw_7 {Z : State} {a0 : Array Value} (hw : ∀ d ∈ tables_1, d.before a0 Z = true) : (Jvm.Cond.methodLink "com/example/arbor_center/arborcenter/objective/UpperEnvelope" (1 : Nat) ({ cls := "java/lang/Object", name := "<init>", desc := "()V" } : Jvm.MethodName)).before a0 Z = true := hw _ (List.mem_of_getElem? (i := 7) rfl)
theorem tw_8 {Z : State} {a0 : Array Value} (hw : ∀ d ∈ tables_1, d.before a0 Z = true) : (Jvm.Cond.instanceMethod ({ cls := "java/lang/Object", name := "<init>", desc := "()V" } : Jvm.MethodName)).before a0 Z = true := hw _ (List.mem_of_getElem? (i := 8) rfl)
theorem tw_9 {Z : State} {a0 : Array Value} (hw : ∀ d ∈ tables_1, d.before a0 Z = true) : (Jvm.Cond.code ({ cls := "java/lang/Object", name := "<init>", desc := "()V" } : Jvm.MethodName) object_method_1_code (1 : Nat) (Option.none : Option Jvm.ClassFile.FieldType)).before a0 Z = true := hw _ (List.mem_of_getElem? (i := 9) rfl)
theorem tw_10 {Z : State} {a0 : Array Value} (hw : ∀ d ∈ tables_1, d.before a0 Z = true) : (Jvm.Cond.fieldLink "com/example/arbor_center/arborcenter/objective/UpperEnvelope" (7 : Nat) "com/example/arbor_center/arborcenter/objective/UpperEnvelope" "halfPoints" "[D").before a0 Z = true := hw _ (List.mem_of_getElem? (i := 10) rfl)
theorem tw_11 {Z : State} {a0 : Array Value} (hw : ∀ d ∈ tables_1, d.before a0 Z = true) : (Jvm.Cond.laysFinal "com/example/arbor_center/arborcenter/objective/UpperEnvelope" "com/example/arbor_center/arborcenter/objective/UpperEnvelope" "halfPoints" "[D").before a0 Z = true := hw _ (List.mem_of_getElem? (i := 11) rfl)
theorem tw_12 {Z : State} {a0 : Array Value} (hw : ∀ d ∈ tables_1, d.before a0 Z = true) : (Jvm.Cond.fieldLink "com/example/arbor_center/arborcenter/objective/UpperEnvelope" (13 : Nat) "com/example/arbor_center/arborcenter/objective/UpperEnvelope" "lines" "[D").before a0 Z = true := hw _ (List.mem_of_getElem? (i := 12) rfl)
theorem tw_13 {Z : State} {a0 : Array Value} (hw : ∀ d ∈ tables_1, d.before a0 Z = true) : (Jvm.Cond.laysFinal "com/example/arbor_center/arborcenter/objective/UpperEnvelope" "com/example/arbor_center/arborcenter/objective/UpperEnvelope" "lines" "[D").before a0 Z = true := hw _ (List.mem_of_getElem? (i := 13) rfl)
theorem tw_14 {Z : State} {a0 : Array Value} (hw : ∀ d ∈ tables_1, d.before a0 Z = true) : (Jvm.Cond.methodLink "com/example/arbor_center/arborcenter/objective/UpperEnvelopeAddPinLaw" (12 : Nat) ({ cls := "com/example/arbor_center/arborcenter/objective/UpperEnvelope", name := "reset", desc := "([DI)V" } : Jvm.MethodName)).before a0 Z = true := hw _ (List.mem_of_getElem? (i := 14) rfl)
theorem tw_15 {Z : State} {a0 : Array Value} (hw : ∀ d ∈ tables_1, d.before a0 Z = true) : (Jvm.Cond.declares ({ cls := "com/example/arbor_center/arborcenter/objective/UpperEnvelope", name := "reset", desc := "([DI)V" } : Jvm.MethodName)).before a0 Z = true := hw _ (List.mem_of_getElem? (i := 15) rfl)
theorem tw_16 {Z : State} {a0 : Array Value} (hw : ∀ d ∈ tables_1, d.before a0 Z = true) : (Jvm.Cond.instanceMethod ({ cls := "com/example/arbor_center/arborcenter/objective/UpperEnvelope", name := "reset", desc := "([DI)V" } : Jvm.MethodName)).before a0 Z = true := hw _ (List.mem_of_getElem? (i := 16) rfl)
theorem tw_17 {Z : State} {a0 : Array Value} (hw : ∀ d ∈ tables_1, d.before a0 Z = true) : (Jvm.Cond.selects "com/example/arbor_center/arborcenter/objective/UpperEnvelope" ({ cls := "com/example/arbor_center/arborcenter/objective/UpperEnvelope", name := "reset", desc := "([DI)V" } : Jvm.MethodName) ({ cls := "com/example/arbor_center/arborcenter/objective/UpperEnvelope", name := "reset", desc := "([DI)V" } : Jvm.MethodName)).before a0 Z = true := hw _ (List.mem_of_getElem? (i := 17) rfl)
theorem tw_18 {Z : State} {a0 : Array Value} (hw : ∀ d ∈ tables_1, d.before a0 Z = true) : (Jvm.Cond.code ({ cls := "com/example/arbor_center/arborcenter/objective/UpperEnvelope", name := "reset", desc := "([DI)V" } : Jvm.MethodName) prog_12_method_2_code (4 : Nat) (Option.none : Option Jvm.ClassFile.FieldType)).before a0 Z = true := hw _ (List.mem_of_getElem? (i := 18) rfl)
theorem tw_19 {Z : State} {a0 : Array Value} (hw : ∀ d ∈ tables_1, d.before a0 Z = true) : (Jvm.Cond.fieldLink "com/example/arbor_center/arborcenter/objective/UpperEnvelope" (16 : Nat) "com/example/arbor_center/arborcenter/objective/UpperEnvelope" "count" "I").before a0 Z = true := hw _ (List.mem_of_getElem? (i := 19) rfl)
theorem tw_20 {Z : State} {a0 : Array Value} (hw : ∀ d ∈ tables_1, d.before a0 Z = true) : (Jvm.Cond.lays "com/example/arbor_center/arborcenter/objective/UpperEnvelope" "com/example/arbor_center/arborcenter/objective/UpperEnvelope" "count" "I").before a0 Z = true := hw _ (List.mem_of_getElem? (i := 20) rfl)
theorem tw_21 {Z : State} {a0 : Array Value} (hw : ∀ d ∈ tables_1, d.before a0 Z = true) : (Jvm.Cond.constantDouble "com/example/arbor_center/arborcenter/objective/UpperEnvelope" (20 : Nat) (4611686018427387904 : UInt64)).before a0 Z = true := hw _ (List.mem_of_getElem? (i := 21) rfl)
theorem tw_22 {Z : State} {a0 : Array Value} (hw : ∀ d ∈ tables_1, d.before a0 Z = true) : (Jvm.Cond.methodLink "com/example/arbor_center/arborcenter/objective/UpperEnvelopeAddPinLaw" (16 : Nat) ({ cls := "com/example/arbor_center/arborcenter/objective/UpperEnvelopeAddPinLaw", name := "w", desc := "(I)J" } : Jvm.MethodName)).before a0 Z = true := hw _ (List.mem_of_getElem? (i := 22) rfl)
theorem tw_23 {Z : State} {a0 : Array Value} (hw : ∀ d ∈ tables_1, d.before a0 Z = true) : (Jvm.Cond.static ({ cls := "com/example/arbor_center/arborcenter/objective/UpperEnvelopeAddPinLaw", name := "w", desc := "(I)J" } : Jvm.MethodName)).before a0 Z = true := hw _ (List.mem_of_getElem? (i := 23) rfl)
theorem tw_24 {Z : State} {a0 : Array Value} (hw : ∀ d ∈ tables_1, d.before a0 Z = true) : (Jvm.Cond.initialized "com/example/arbor_center/arborcenter/objective/UpperEnvelopeAddPinLaw").before a0 Z = true := hw _ (List.mem_of_getElem? (i := 24) rfl)
theorem tw_25 {Z : State} {a0 : Array Value} (hw : ∀ d ∈ tables_1, d.before a0 Z = true) : (Jvm.Cond.code ({ cls := "com/example/arbor_center/arborcenter/objective/UpperEnvelopeAddPinLaw", name := "w", desc := "(I)J" } : Jvm.MethodName) method_3_code (1 : Nat) (Option.some Jvm.ClassFile.FieldType.long)).before a0 Z = true := hw _ (List.mem_of_getElem? (i := 25) rfl)
theorem tw_26 {Z : State} {a0 : Array Value} (hw : ∀ d ∈ tables_1, d.before a0 Z = true) : (Jvm.Cond.constant "com/example/arbor_center/arborcenter/objective/UpperEnvelopeAddPinLaw" (33 : Nat) (65535 : Int32)).before a0 Z = true := hw _ (List.mem_of_getElem? (i := 26) rfl)
theorem tw_27 {Z : State} {a0 : Array Value} (hw : ∀ d ∈ tables_1, d.before a0 Z = true) : (Jvm.Cond.methodLink "com/example/arbor_center/arborcenter/objective/UpperEnvelopeAddPinLaw" (22 : Nat) ({ cls := "com/example/arbor_center/arborcenter/objective/UpperEnvelopeAddPinLaw", name := "d", desc := "(I)J" } : Jvm.MethodName)).before a0 Z = true := hw _ (List.mem_of_getElem? (i := 27) rfl)
theorem tw_28 {Z : State} {a0 : Array Value} (hw : ∀ d ∈ tables_1, d.before a0 Z = true) : (Jvm.Cond.static ({ cls := "com/example/arbor_center/arborcenter/objective/UpperEnvelopeAddPinLaw", name := "d", desc := "(I)J" } : Jvm.MethodName)).before a0 Z = true := hw _ (List.mem_of_getElem? (i := 28) rfl)
theorem tw_29 {Z : State} {a0 : Array Value} (hw : ∀ d ∈ tables_1, d.before a0 Z = true) : (Jvm.Cond.code ({ cls := "com/example/arbor_center/arborcenter/objective/UpperEnvelopeAddPinLaw", name := "d", desc := "(I)J" } : Jvm.MethodName) method_4_code (1 : Nat) (Option.some Jvm.ClassFile.FieldType.long)).before a0 Z = true := hw _ (List.mem_of_getElem? (i := 29) rfl)
theorem tw_30 {Z : State} {a0 : Array Value} (hw : ∀ d ∈ tables_1, d.before a0 Z = true) : (Jvm.Cond.methodLink "com/example/arbor_center/arborcenter/objective/UpperEnvelopeAddPinLaw" (25 : Nat) ({ cls := "com/example/arbor_center/arborcenter/objective/UpperEnvelope", name := "add", desc := "(DD)V" } : Jvm.MethodName)).before a0 Z = true := hw _ (List.mem_of_getElem? (i := 30) rfl)
theorem tw_31 {Z : State} {a0 : Array Value} (hw : ∀ d ∈ tables_1, d.before a0 Z = true) : (Jvm.Cond.declares ({ cls := "com/example/arbor_center/arborcenter/objective/UpperEnvelope", name := "add", desc := "(DD)V" } : Jvm.MethodName)).before a0 Z = true := hw _ (List.mem_of_getElem? (i := 31) rfl)
theorem tw_32 {Z : State} {a0 : Array Value} (hw : ∀ d ∈ tables_1, d.before a0 Z = true) : (Jvm.Cond.instanceMethod ({ cls := "com/example/arbor_center/arborcenter/objective/UpperEnvelope", name := "add", desc := "(DD)V" } : Jvm.MethodName)).before a0 Z = true := hw _ (List.mem_of_getElem? (i := 32) rfl)
theorem tw_33 {Z : State} {a0 : Array Value} (hw : ∀ d ∈ tables_1, d.before a0 Z = true) : (Jvm.Cond.selects "com/example/arbor_center/arborcenter/objective/UpperEnvelope" ({ cls := "com/example/arbor_center/arborcenter/objective/UpperEnvelope", name := "add", desc := "(DD)V" } : Jvm.MethodName) ({ cls := "com/example/arbor_center/arborcenter/objective/UpperEnvelope", name := "add", desc := "(DD)V" } : Jvm.MethodName)).before a0 Z = true := hw _ (List.mem_of_getElem? (i := 33) rfl)
theorem tw_34 {Z : State} {a0 : Array Value} (hw : ∀ d ∈ tables_1, d.before a0 Z = true) : (Jvm.Cond.code ({ cls := "com/example/arbor_center/arborcenter/objective/UpperEnvelope", name := "add", desc := "(DD)V" } : Jvm.MethodName) prog_12_method_3_code (18 : Nat) (Option.none : Option Jvm.ClassFile.FieldType)).before a0 Z = true := hw _ (List.mem_of_getElem? (i := 34) rfl)
theorem tw_35 {Z : State} {a0 : Array Value} (hw : ∀ d ∈ tables_1, d.before a0 Z = true) : (Jvm.Cond.methodLink "com/example/arbor_center/arborcenter/objective/UpperEnvelopeAddPinLaw" (29 : Nat) ({ cls := "com/example/arbor_center/arborcenter/objective/UpperEnvelopeAddPinLaw", name := "check", desc := "(Lcom/example/arbor_center/arborcenter/objective/UpperEnvelope;IJIIII)Z" } : Jvm.MethodName)).before a0 Z = true := hw _ (List.mem_of_getElem? (i := 35) rfl)
theorem tw_36 {Z : State} {a0 : Array Value} (hw : ∀ d ∈ tables_1, d.before a0 Z = true) : (Jvm.Cond.static ({ cls := "com/example/arbor_center/arborcenter/objective/UpperEnvelopeAddPinLaw", name := "check", desc := "(Lcom/example/arbor_center/arborcenter/objective/UpperEnvelope;IJIIII)Z" } : Jvm.MethodName)).before a0 Z = true := hw _ (List.mem_of_getElem? (i := 36) rfl)
theorem tw_37 {Z : State} {a0 : Array Value} (hw : ∀ d ∈ tables_1, d.before a0 Z = true) : (Jvm.Cond.code ({ cls := "com/example/arbor_center/arborcenter/objective/UpperEnvelopeAddPinLaw", name := "check", desc := "(Lcom/example/arbor_center/arborcenter/objective/UpperEnvelope;IJIIII)Z" } : Jvm.MethodName) method_7_code (8 : Nat) (Option.some Jvm.ClassFile.FieldType.boolean)).before a0 Z = true := hw _ (List.mem_of_getElem? (i := 37) rfl)
theorem tw_38 {Z : State} {a0 : Array Value} (hw : ∀ d ∈ tables_1, d.before a0 Z = true) : (Jvm.Cond.methodLink "com/example/arbor_center/arborcenter/objective/UpperEnvelopeAddPinLaw" (44 : Nat) ({ cls := "com/example/arbor_center/arborcenter/objective/UpperEnvelope", name := "at", desc := "(I)D" } : Jvm.MethodName)).before a0 Z = true := hw _ (List.mem_of_getElem? (i := 38) rfl)
theorem tw_39 {Z : State} {a0 : Array Value} (hw : ∀ d ∈ tables_1, d.before a0 Z = true) : (Jvm.Cond.declares ({ cls := "com/example/arbor_center/arborcenter/objective/UpperEnvelope", name := "at", desc := "(I)D" } : Jvm.MethodName)).before a0 Z = true := hw _ (List.mem_of_getElem? (i := 39) rfl)
theorem tw_40 {Z : State} {a0 : Array Value} (hw : ∀ d ∈ tables_1, d.before a0 Z = true) : (Jvm.Cond.instanceMethod ({ cls := "com/example/arbor_center/arborcenter/objective/UpperEnvelope", name := "at", desc := "(I)D" } : Jvm.MethodName)).before a0 Z = true := hw _ (List.mem_of_getElem? (i := 40) rfl)
theorem tw_41 {Z : State} {a0 : Array Value} (hw : ∀ d ∈ tables_1, d.before a0 Z = true) : (Jvm.Cond.selects "com/example/arbor_center/arborcenter/objective/UpperEnvelope" ({ cls := "com/example/arbor_center/arborcenter/objective/UpperEnvelope", name := "at", desc := "(I)D" } : Jvm.MethodName) ({ cls := "com/example/arbor_center/arborcenter/objective/UpperEnvelope", name := "at", desc := "(I)D" } : Jvm.MethodName)).before a0 Z = true := hw _ (List.mem_of_getElem? (i := 41) rfl)
theorem tw_42 {Z : State} {a0 : Array Value} (hw : ∀ d ∈ tables_1, d.before a0 Z = true) : (Jvm.Cond.code ({ cls := "com/example/arbor_center/arborcenter/objective/UpperEnvelope", name := "at", desc := "(I)D" } : Jvm.MethodName) prog_12_method_4_code (10 : Nat) (Option.some Jvm.ClassFile.FieldType.double)).before a0 Z = true := hw _ (List.mem_of_getElem? (i := 42) rfl)
theorem tw_43 {Z : State} {a0 : Array Value} (hw : ∀ d ∈ tables_1, d.before a0 Z = true) : (Jvm.Cond.methodLink "com/example/arbor_center/arborcenter/objective/UpperEnvelope" (22 : Nat) ({ cls := "java/lang/Math", name := "max", desc := "(DD)D" } : Jvm.MethodName)).before a0 Z = true := hw _ (List.mem_of_getElem? (i := 43) rfl)
theorem tw_44 {Z : State} {a0 : Array Value} (hw : ∀ d ∈ tables_1, d.before a0 Z = true) : (Jvm.Cond.static ({ cls := "java/lang/Math", name := "max", desc := "(DD)D" } : Jvm.MethodName)).before a0 Z = true := hw _ (List.mem_of_getElem? (i := 44) rfl)
theorem tw_45 {Z : State} {a0 : Array Value} (hw : ∀ d ∈ tables_1, d.before a0 Z = true) : (Jvm.Cond.initialized "java/lang/Math").before a0 Z = true := hw _ (List.mem_of_getElem? (i := 45) rfl)
theorem tw_46 {Z : State} {a0 : Array Value} (hw : ∀ d ∈ tables_1, d.before a0 Z = true) : (Jvm.Cond.code ({ cls := "java/lang/Math", name := "max", desc := "(DD)D" } : Jvm.MethodName) jdk_29_method_68_code (4 : Nat) (Option.some Jvm.ClassFile.FieldType.double)).before a0 Z = true := hw _ (List.mem_of_getElem? (i := 46) rfl)
theorem tw_47 {Z : State} {a0 : Array Value} (hw : ∀ d ∈ tables_1, d.before a0 Z = true) : (Jvm.Cond.methodLink "com/example/arbor_center/arborcenter/objective/UpperEnvelopeAddPinLaw" (48 : Nat) ({ cls := "com/example/arbor_center/arborcenter/objective/UpperEnvelopeAddPinLaw", name := "best", desc := "(JIIII)J" } : Jvm.MethodName)).before a0 Z = true := hw _ (List.mem_of_getElem? (i := 47) rfl)
theorem tw_48 {Z : State} {a0 : Array Value} (hw : ∀ d ∈ tables_1, d.before a0 Z = true) : (Jvm.Cond.static ({ cls := "com/example/arbor_center/arborcenter/objective/UpperEnvelopeAddPinLaw", name := "best", desc := "(JIIII)J" } : Jvm.MethodName)).before a0 Z = true := hw _ (List.mem_of_getElem? (i := 48) rfl)
theorem tw_49 {Z : State} {a0 : Array Value} (hw : ∀ d ∈ tables_1, d.before a0 Z = true) : (Jvm.Cond.code ({ cls := "com/example/arbor_center/arborcenter/objective/UpperEnvelopeAddPinLaw", name := "best", desc := "(JIIII)J" } : Jvm.MethodName) method_6_code (8 : Nat) (Option.some Jvm.ClassFile.FieldType.long)).before a0 Z = true := hw _ (List.mem_of_getElem? (i := 49) rfl)
theorem tw_50 {Z : State} {a0 : Array Value} (hw : ∀ d ∈ tables_1, d.before a0 Z = true) : (Jvm.Cond.methodLink "com/example/arbor_center/arborcenter/objective/UpperEnvelopeAddPinLaw" (34 : Nat) ({ cls := "com/example/arbor_center/arborcenter/objective/UpperEnvelopeAddPinLaw", name := "value", desc := "(JI)J" } : Jvm.MethodName)).before a0 Z = true := hw _ (List.mem_of_getElem? (i := 50) rfl)
theorem tw_51 {Z : State} {a0 : Array Value} (hw : ∀ d ∈ tables_1, d.before a0 Z = true) : (Jvm.Cond.static ({ cls := "com/example/arbor_center/arborcenter/objective/UpperEnvelopeAddPinLaw", name := "value", desc := "(JI)J" } : Jvm.MethodName)).before a0 Z = true := hw _ (List.mem_of_getElem? (i := 51) rfl)
theorem tw_52 {Z : State} {a0 : Array Value} (hw : ∀ d ∈ tables_1, d.before a0 Z = true) : (Jvm.Cond.code ({ cls := "com/example/arbor_center/arborcenter/objective/UpperEnvelopeAddPinLaw", name := "value", desc := "(JI)J" } : Jvm.MethodName) method_5_code (3 : Nat) (Option.some Jvm.ClassFile.FieldType.long)).before a0 Z = true := hw _ (List.mem_of_getElem? (i := 52) rfl)
theorem tw_53 {Z : State} {a0 : Array Value} (hw : ∀ d ∈ tables_1, d.before a0 Z = true) : (Jvm.Cond.methodLink "com/example/arbor_center/arborcenter/objective/UpperEnvelopeAddPinLaw" (38 : Nat) ({ cls := "java/lang/Math", name := "max", desc := "(JJ)J" } : Jvm.MethodName)).before a0 Z = true := hw _ (List.mem_of_getElem? (i := 53) rfl)
theorem tw_54 {Z : State} {a0 : Array Value} (hw : ∀ d ∈ tables_1, d.before a0 Z = true) : (Jvm.Cond.static ({ cls := "java/lang/Math", name := "max", desc := "(JJ)J" } : Jvm.MethodName)).before a0 Z = true := hw _ (List.mem_of_getElem? (i := 54) rfl)
theorem tw_55 {Z : State} {a0 : Array Value} (hw : ∀ d ∈ tables_1, d.before a0 Z = true) : (Jvm.Cond.code ({ cls := "java/lang/Math", name := "max", desc := "(JJ)J" } : Jvm.MethodName) jdk_29_method_66_code (4 : Nat) (Option.some Jvm.ClassFile.FieldType.long)).before a0 Z = true := hw _ (List.mem_of_getElem? (i := 55) rfl)
theorem pd_0 : parseMethodDescriptor "(I)J" = some ⟨[.int], some .long⟩ := by decide +kernel
theorem pd_1 : parseMethodDescriptor "(JI)J" = some ⟨[.long, .int], some .long⟩ := by decide +kernel
theorem pd_2 : parseMethodDescriptor "(JJ)J" = some ⟨[.long, .long], some .long⟩ := by decide +kernel
theorem pd_3 : parseMethodDescriptor "(I)D" = some ⟨[.int], some .double⟩ := by decide +kernel
theorem pd_4 : parseMethodDescriptor "(JIIII)J" = some ⟨[.long, .int, .int, .int, .int], some .long⟩ := by decide +kernel
theorem pd_5 : parseMethodDescriptor "(I)V" = some ⟨[.int], none⟩ := by decide +kernel
theorem pd_6 : parseMethodDescriptor "([DI)V" = some ⟨[(.array .double), .int], none⟩ := by decide +kernel
theorem pd_7 : parseMethodDescriptor "(DD)V" = some ⟨[.double, .double], none⟩ := by decide +kernel
theorem pd_8 : parseMethodDescriptor "(Lcom/example/arbor_center/arborcenter/objective/UpperEnvelope;IJIIII)Z" = some ⟨[(.object "com/example/arbor_center/arborcenter/objective/UpperEnvelope"), .int, .long, .int, .int, .int, .int], some .boolean⟩ := by decide +kernel
theorem bp_b_16 : (Int8.ofInt 16).toInt32 = (16 : Int32) := by decide +kernel
theorem bp_s_32767 : (Int16.ofInt 32767).toInt32 = (32767 : Int32) := by decide +kernel
theorem bp_s_255 : (Int16.ofInt 255).toInt32 = (255 : Int32) := by decide +kernel
theorem bp_b_8 : (Int8.ofInt 8).toInt32 = (8 : Int32) := by decide +kernel
theorem bp_b_24 : (Int8.ofInt 24).toInt32 = (24 : Int32) := by decide +kernel
theorem f12_0 : Dec jdk_29_method_66_code 0 (.lload_n 0) 1 1 := ⟨by decide +kernel, rfl⟩
theorem f12_1 : Dec jdk_29_method_66_code 1 (.lload_n 2) 1 2 := ⟨by decide +kernel, rfl⟩
theorem f12_2 : Dec jdk_29_method_66_code 2 (.lcmp) 1 3 := ⟨by decide +kernel, rfl⟩
theorem f12_3 : DecJ jdk_29_method_66_code 3 (.ifCond .lt 7) 7 10 6 := ⟨by decide +kernel, by decide, by decide, rfl⟩
theorem f12_6 : Dec jdk_29_method_66_code 6 (.lload_n 0) 1 7 := ⟨by decide +kernel, rfl⟩
theorem f12_7 : DecJ jdk_29_method_66_code 7 (.goto 4) 4 11 10 := ⟨by decide +kernel, by decide, by decide, rfl⟩
theorem f12_10 : Dec jdk_29_method_66_code 10 (.lload_n 2) 1 11 := ⟨by decide +kernel, rfl⟩
theorem f12_11 : Dec jdk_29_method_66_code 11 (.lreturn) 1 12 := ⟨by decide +kernel, rfl⟩
theorem pn_12 : plainFor (⟨"java/lang/Math", "max", "(JJ)J"⟩ : MethodName) = true := Jvm.Free.JP.mathPlain rfl (by decide +kernel)
theorem ef_12 (m : MethodId) (i : Int64) (j : Int64) : entryFrame m #[(.long i), (.long j)] 4 = mkF m 0 #[.val (.long i), .second, .val (.long j), .second] [] := by first | (simp [entryFrame, mkF, argsToLocals, Value.category]; done) | rfl
def R12 (i : Int64) (j : Int64) : Int64 := (if (lcmpW i j) < (0 : Int32) then j else i)
def Q12 (Z : State) (i : Int64) (j : Int64) (h0 : Heap) (n0 : Nat) (v9 : Option Value) (h9 : Heap) (L9 : List Loc) : Prop := v9 = some (.long (R12 i j)) ∧ Fr n0 L9 ∧ h9 = h0
set_option maxRecDepth 65536 in
set_option maxHeartbeats 40000000 in
theorem rm12 (l : Launch) (Z : State) (a0 : Array Value) (hw : ∀ d ∈ tables_1, d.before a0 Z = true) (ws : List Jvm.Cond) (i : Int64) (j : Int64) (h0 : Heap) (n0 : Nat) (Z0 : n0 ≤ h0.size) :
    MetFree l (⟨"java/lang/Math", "max", "(JJ)J"⟩ : MethodName) (head1 (Jvm.Cond.code (⟨"java/lang/Math", "max", "(JJ)J"⟩ : MethodName) jdk_29_method_66_code 4 (some .long) :: ws) ({ frames := 0, cells := 0, slots := 0, locals := 0 } : Room)) (fun A9 U9 => A9 = #[(.long i), (.long j)] ∧ Z.Warmed39 U9.vm ∧ U9.heap = h0) (fun _ _ _ _ _ => True) (fun _ U9 o9 V9 => ∃ v9 L9, o9 = .returned v9 ∧ (Q12 Z i j h0 n0) v9 V9.heap L9 ∧ FrameEnd U9 o9 V9 L9 ({ frames := 0, cells := 0, slots := 0, locals := 0 } : Room).cells ({ frames := 0, cells := 0, slots := 0, locals := 0 } : Room).slots) := by
  refine met_of (Q := (Q12 Z i j h0 n0)) pn_12 ?_
  intro p e s m below meth c T0 C X0 e0
  have N0 := Fr.nil n0
  refine Go.cast (ef_12 m i j) ?_
  refine wlloadN C X0 f12_0 rfl ?_
  refine wlloadN C X0 f12_1 rfl ?_
  refine wlcmp C X0 f12_2 ?_
  refine wif_lt C X0 f12_3 (fun hc3 => ?_) (fun hc3 => ?_)
  · refine wlloadN C X0 f12_10 rfl ?_
    refine wlret C X0 f12_11 rfl (by decide) (by decide) ?_
    rw [e0]
    exact ⟨(by unfold R12; rw [if_pos hc3]), N0, rfl⟩
  · refine wlloadN C X0 f12_6 rfl ?_
    refine wgoto C X0 f12_7 ?_
    refine wlret C X0 f12_11 rfl (by decide) (by decide) ?_
    rw [e0]
    exact ⟨(by unfold R12; rw [if_neg hc3]), N0, rfl⟩
theorem f4_0 : Dec method_3_code 0 (.iconst 1) 1 1 := ⟨by decide +kernel, rfl⟩
theorem f4_1 : Dec method_3_code 1 (.iload_n 0) 1 2 := ⟨by decide +kernel, rfl⟩
theorem f4_2 : Dec method_3_code 2 (.ldc 33) 2 4 := ⟨by decide +kernel, rfl⟩
theorem f4_4 : Dec method_3_code 4 (.iand) 1 5 := ⟨by decide +kernel, rfl⟩
theorem f4_5 : Dec method_3_code 5 (.iadd) 1 6 := ⟨by decide +kernel, rfl⟩
theorem f4_6 : Dec method_3_code 6 (.i2l) 1 7 := ⟨by decide +kernel, rfl⟩
theorem f4_7 : Dec method_3_code 7 (.lreturn) 1 8 := ⟨by decide +kernel, rfl⟩
theorem pn_4 : plainFor (⟨"com/example/arbor_center/arborcenter/objective/UpperEnvelopeAddPinLaw", "w", "(I)J"⟩ : MethodName) = true := plainFor_of_name (show plainName "com/example/arbor_center/arborcenter/objective/UpperEnvelopeAddPinLaw" = true by first | (simp [plainName, overriddenIn]; done) | decide +kernel)
theorem ef_4 (m : MethodId) (i : Int32) : entryFrame m #[(.int i)] 1 = mkF m 0 #[.val (.int i)] [] := by first | (simp [entryFrame, mkF, argsToLocals, Value.category]; done) | rfl
def Q4 (Z : State) (i : Int32) (h0 : Heap) (n0 : Nat) (v9 : Option Value) (h9 : Heap) (L9 : List Loc) : Prop := v9 = some (.long ((1 : Int32) + (i &&& (65535 : Int32))).toInt64) ∧ Fr n0 L9 ∧ h9 = h0
set_option maxRecDepth 65536 in
set_option maxHeartbeats 40000000 in
theorem rm4 (l : Launch) (Z : State) (a0 : Array Value) (hw : ∀ d ∈ tables_1, d.before a0 Z = true) (ws : List Jvm.Cond) (i : Int32) (h0 : Heap) (n0 : Nat) (Z0 : n0 ≤ h0.size) :
    MetFree l (⟨"com/example/arbor_center/arborcenter/objective/UpperEnvelopeAddPinLaw", "w", "(I)J"⟩ : MethodName) (head1 (Jvm.Cond.code (⟨"com/example/arbor_center/arborcenter/objective/UpperEnvelopeAddPinLaw", "w", "(I)J"⟩ : MethodName) method_3_code 1 (some .long) :: ws) ({ frames := 0, cells := 0, slots := 0, locals := 0 } : Room)) (fun A9 U9 => A9 = #[(.int i)] ∧ Z.Warmed39 U9.vm ∧ U9.heap = h0) (fun _ _ _ _ _ => True) (fun _ U9 o9 V9 => ∃ v9 L9, o9 = .returned v9 ∧ (Q4 Z i h0 n0) v9 V9.heap L9 ∧ FrameEnd U9 o9 V9 L9 ({ frames := 0, cells := 0, slots := 0, locals := 0 } : Room).cells ({ frames := 0, cells := 0, slots := 0, locals := 0 } : Room).slots) := by
  refine met_of (Q := (Q4 Z i h0 n0)) pn_4 ?_
  intro p e s m below meth c T0 C X0 e0
  have N0 := Fr.nil n0
  refine Go.cast (ef_4 m i) ?_
  refine wiconst C X0 f4_0 (1 : Int32) rfl ?_
  refine wiloadN C X0 f4_1 rfl ?_
  refine wldcI C X0 (tw_26 hw) f4_2 ?_
  refine wiand C X0 f4_4 ?_
  refine wiadd C X0 f4_5 ?_
  refine wi2l C X0 f4_6 ?_
  refine wlret C X0 f4_7 rfl (by decide) (by decide) ?_
  rw [e0]
  exact ⟨rfl, N0, rfl⟩
theorem f5_0 : Dec method_4_code 0 (.iload_n 0) 1 1 := ⟨by decide +kernel, rfl⟩
theorem f5_1 : Dec method_4_code 1 (.bipush 16) 2 3 := ⟨by decide +kernel, rfl⟩
theorem f5_3 : Dec method_4_code 3 (.iushr) 1 4 := ⟨by decide +kernel, rfl⟩
theorem f5_4 : Dec method_4_code 4 (.sipush 32767) 3 7 := ⟨by decide +kernel, rfl⟩
theorem f5_7 : Dec method_4_code 7 (.iand) 1 8 := ⟨by decide +kernel, rfl⟩
theorem f5_8 : Dec method_4_code 8 (.i2l) 1 9 := ⟨by decide +kernel, rfl⟩
theorem f5_9 : Dec method_4_code 9 (.lreturn) 1 10 := ⟨by decide +kernel, rfl⟩
theorem pn_5 : plainFor (⟨"com/example/arbor_center/arborcenter/objective/UpperEnvelopeAddPinLaw", "d", "(I)J"⟩ : MethodName) = true := plainFor_of_name (show plainName "com/example/arbor_center/arborcenter/objective/UpperEnvelopeAddPinLaw" = true by first | (simp [plainName, overriddenIn]; done) | decide +kernel)
theorem ef_5 (m : MethodId) (i : Int32) : entryFrame m #[(.int i)] 1 = mkF m 0 #[.val (.int i)] [] := by first | (simp [entryFrame, mkF, argsToLocals, Value.category]; done) | rfl
def Q5 (Z : State) (i : Int32) (h0 : Heap) (n0 : Nat) (v9 : Option Value) (h9 : Heap) (L9 : List Loc) : Prop := v9 = some (.long ((i.toUInt32 >>> ((16 : Int32) &&& 31).toUInt32).toInt32 &&& (32767 : Int32)).toInt64) ∧ Fr n0 L9 ∧ h9 = h0
set_option maxRecDepth 65536 in
set_option maxHeartbeats 40000000 in
theorem rm5 (l : Launch) (Z : State) (a0 : Array Value) (hw : ∀ d ∈ tables_1, d.before a0 Z = true) (ws : List Jvm.Cond) (i : Int32) (h0 : Heap) (n0 : Nat) (Z0 : n0 ≤ h0.size) :
    MetFree l (⟨"com/example/arbor_center/arborcenter/objective/UpperEnvelopeAddPinLaw", "d", "(I)J"⟩ : MethodName) (head1 (Jvm.Cond.code (⟨"com/example/arbor_center/arborcenter/objective/UpperEnvelopeAddPinLaw", "d", "(I)J"⟩ : MethodName) method_4_code 1 (some .long) :: ws) ({ frames := 0, cells := 0, slots := 0, locals := 0 } : Room)) (fun A9 U9 => A9 = #[(.int i)] ∧ Z.Warmed39 U9.vm ∧ U9.heap = h0) (fun _ _ _ _ _ => True) (fun _ U9 o9 V9 => ∃ v9 L9, o9 = .returned v9 ∧ (Q5 Z i h0 n0) v9 V9.heap L9 ∧ FrameEnd U9 o9 V9 L9 ({ frames := 0, cells := 0, slots := 0, locals := 0 } : Room).cells ({ frames := 0, cells := 0, slots := 0, locals := 0 } : Room).slots) := by
  refine met_of (Q := (Q5 Z i h0 n0)) pn_5 ?_
  intro p e s m below meth c T0 C X0 e0
  have N0 := Fr.nil n0
  refine Go.cast (ef_5 m i) ?_
  refine wiloadN C X0 f5_0 rfl ?_
  refine wbipush C X0 f5_1 (16 : Int32) bp_b_16 ?_
  refine wiushr C X0 f5_3 ?_
  refine wsipush C X0 f5_4 (32767 : Int32) bp_s_32767 ?_
  refine wiand C X0 f5_7 ?_
  refine wi2l C X0 f5_8 ?_
  refine wlret C X0 f5_9 rfl (by decide) (by decide) ?_
  rw [e0]
  exact ⟨rfl, N0, rfl⟩
theorem f11_0 : Dec method_5_code 0 (.iload_n 2) 1 1 := ⟨by decide +kernel, rfl⟩
theorem f11_1 : Dec method_5_code 1 (.invokestatic 16) 3 4 := ⟨by decide +kernel, rfl⟩
theorem f11_4 : Dec method_5_code 4 (.lload_n 0) 1 5 := ⟨by decide +kernel, rfl⟩
theorem f11_5 : Dec method_5_code 5 (.iload_n 2) 1 6 := ⟨by decide +kernel, rfl⟩
theorem f11_6 : Dec method_5_code 6 (.invokestatic 22) 3 9 := ⟨by decide +kernel, rfl⟩
theorem f11_9 : Dec method_5_code 9 (.ladd) 1 10 := ⟨by decide +kernel, rfl⟩
theorem f11_10 : Dec method_5_code 10 (.lmul) 1 11 := ⟨by decide +kernel, rfl⟩
theorem f11_11 : Dec method_5_code 11 (.lreturn) 1 12 := ⟨by decide +kernel, rfl⟩
theorem pn_11 : plainFor (⟨"com/example/arbor_center/arborcenter/objective/UpperEnvelopeAddPinLaw", "value", "(JI)J"⟩ : MethodName) = true := plainFor_of_name (show plainName "com/example/arbor_center/arborcenter/objective/UpperEnvelopeAddPinLaw" = true by first | (simp [plainName, overriddenIn]; done) | decide +kernel)
theorem ef_11 (m : MethodId) (xx : Int64) (i : Int32) : entryFrame m #[(.long xx), (.int i)] 3 = mkF m 0 #[.val (.long xx), .second, .val (.int i)] [] := by first | (simp [entryFrame, mkF, argsToLocals, Value.category]; done) | rfl
def Q11 (Z : State) (xx : Int64) (i : Int32) (h0 : Heap) (n0 : Nat) (v9 : Option Value) (h9 : Heap) (L9 : List Loc) : Prop := v9 = some (.long (((1 : Int32) + (i &&& (65535 : Int32))).toInt64 * (xx + ((i.toUInt32 >>> ((16 : Int32) &&& 31).toUInt32).toInt32 &&& (32767 : Int32)).toInt64))) ∧ Fr n0 L9 ∧ h9 = h0
set_option maxRecDepth 65536 in
set_option maxHeartbeats 40000000 in
theorem rm11 (l : Launch) (Z : State) (a0 : Array Value) (hw : ∀ d ∈ tables_1, d.before a0 Z = true) (ws : List Jvm.Cond) (xx : Int64) (i : Int32) (h0 : Heap) (n0 : Nat) (Z0 : n0 ≤ h0.size) :
    MetFree l (⟨"com/example/arbor_center/arborcenter/objective/UpperEnvelopeAddPinLaw", "value", "(JI)J"⟩ : MethodName) (head1 (Jvm.Cond.code (⟨"com/example/arbor_center/arborcenter/objective/UpperEnvelopeAddPinLaw", "value", "(JI)J"⟩ : MethodName) method_5_code 3 (some .long) :: ws) ({ frames := 1, cells := 0, slots := 0, locals := 16 } : Room)) (fun A9 U9 => A9 = #[(.long xx), (.int i)] ∧ Z.Warmed39 U9.vm ∧ U9.heap = h0) (fun _ _ _ _ _ => True) (fun _ U9 o9 V9 => ∃ v9 L9, o9 = .returned v9 ∧ (Q11 Z xx i h0 n0) v9 V9.heap L9 ∧ FrameEnd U9 o9 V9 L9 ({ frames := 1, cells := 0, slots := 0, locals := 16 } : Room).cells ({ frames := 1, cells := 0, slots := 0, locals := 16 } : Room).slots) := by
  refine met_of (Q := (Q11 Z xx i h0 n0)) pn_11 ?_
  intro p e s m below meth c T0 C X0 e0
  have N0 := Fr.nil n0
  refine Go.cast (ef_11 m xx i) ?_
  refine wiloadN C X0 f11_0 rfl ?_
  refine wstatic C X0 (y := (⟨"com/example/arbor_center/arborcenter/objective/UpperEnvelopeAddPinLaw", "w", "(I)J"⟩ : MethodName)) (tw_22 hw) (tw_23 hw) (tw_24 hw) (tw_25 hw) (by decide) (rm4 l Z a0 hw [] i h0 n0 Z0) e0 f11_1 (argsL := [(.int i)]) (rest := []) rfl rfl (lenOf pd_0 rfl) rfl (W := 0) (Nat.le_of_eq rfl) (by decide) (by decide) (by decide) (by decide) ?_
  intro v1 T1 L1 X1 q1
  obtain ⟨rfl, Nq1, eq1⟩ := q1
  have N1 := Fr.app N0 Nq1
  show Go p e below s _ _ _ T1 (mkF m 4 #[.val (.long xx), .second, .val (.int i)] [(.long ((1 : Int32) + (i &&& (65535 : Int32))).toInt64)])
  refine wlloadN C X1 f11_4 rfl ?_
  refine wiloadN C X1 f11_5 rfl ?_
  refine wstatic C X1 (y := (⟨"com/example/arbor_center/arborcenter/objective/UpperEnvelopeAddPinLaw", "d", "(I)J"⟩ : MethodName)) (tw_27 hw) (tw_28 hw) (tw_24 hw) (tw_29 hw) (by decide) (rm5 l Z a0 hw [] i h0 n0 Z0) eq1 f11_6 (argsL := [(.int i)]) (rest := [(.long xx), (.long ((1 : Int32) + (i &&& (65535 : Int32))).toInt64)]) rfl rfl (lenOf pd_0 rfl) rfl (W := 4) (Nat.le_of_eq rfl) (by decide) (by decide) (by decide) (by decide) ?_
  intro v2 T2 L2 X2 q2
  obtain ⟨rfl, Nq2, eq2⟩ := q2
  have N2 := Fr.app N1 Nq2
  show Go p e below s _ _ _ T2 (mkF m 9 #[.val (.long xx), .second, .val (.int i)] [(.long ((i.toUInt32 >>> ((16 : Int32) &&& 31).toUInt32).toInt32 &&& (32767 : Int32)).toInt64), (.long xx), (.long ((1 : Int32) + (i &&& (65535 : Int32))).toInt64)])
  refine wladd C X2 f11_9 ?_
  refine wlmul C X2 f11_10 ?_
  refine wlret C X2 f11_11 rfl (by decide) (by decide) ?_
  rw [eq2]
  exact ⟨rfl, N2, rfl⟩
theorem f10_0 : Dec method_6_code 0 (.lload_n 0) 1 1 := ⟨by decide +kernel, rfl⟩
theorem f10_1 : Dec method_6_code 1 (.iload_n 2) 1 2 := ⟨by decide +kernel, rfl⟩
theorem f10_2 : Dec method_6_code 2 (.invokestatic 34) 3 5 := ⟨by decide +kernel, rfl⟩
theorem f10_5 : Dec method_6_code 5 (.lstore 6) 2 7 := ⟨by decide +kernel, rfl⟩
theorem f10_7 : Dec method_6_code 7 (.lload 6) 2 9 := ⟨by decide +kernel, rfl⟩
theorem f10_9 : Dec method_6_code 9 (.lload_n 0) 1 10 := ⟨by decide +kernel, rfl⟩
theorem f10_10 : Dec method_6_code 10 (.iload_n 3) 1 11 := ⟨by decide +kernel, rfl⟩
theorem f10_11 : Dec method_6_code 11 (.invokestatic 34) 3 14 := ⟨by decide +kernel, rfl⟩
theorem f10_14 : Dec method_6_code 14 (.invokestatic 38) 3 17 := ⟨by decide +kernel, rfl⟩
theorem f10_17 : Dec method_6_code 17 (.lstore 6) 2 19 := ⟨by decide +kernel, rfl⟩
theorem f10_19 : Dec method_6_code 19 (.lload 6) 2 21 := ⟨by decide +kernel, rfl⟩
theorem f10_21 : Dec method_6_code 21 (.lload_n 0) 1 22 := ⟨by decide +kernel, rfl⟩
theorem f10_22 : Dec method_6_code 22 (.iload 4) 2 24 := ⟨by decide +kernel, rfl⟩
theorem f10_24 : Dec method_6_code 24 (.invokestatic 34) 3 27 := ⟨by decide +kernel, rfl⟩
theorem f10_27 : Dec method_6_code 27 (.invokestatic 38) 3 30 := ⟨by decide +kernel, rfl⟩
theorem f10_30 : Dec method_6_code 30 (.lstore 6) 2 32 := ⟨by decide +kernel, rfl⟩
theorem f10_32 : Dec method_6_code 32 (.lload 6) 2 34 := ⟨by decide +kernel, rfl⟩
theorem f10_34 : Dec method_6_code 34 (.lload_n 0) 1 35 := ⟨by decide +kernel, rfl⟩
theorem f10_35 : Dec method_6_code 35 (.iload 5) 2 37 := ⟨by decide +kernel, rfl⟩
theorem f10_37 : Dec method_6_code 37 (.invokestatic 34) 3 40 := ⟨by decide +kernel, rfl⟩
theorem f10_40 : Dec method_6_code 40 (.invokestatic 38) 3 43 := ⟨by decide +kernel, rfl⟩
theorem f10_43 : Dec method_6_code 43 (.lstore 6) 2 45 := ⟨by decide +kernel, rfl⟩
theorem f10_45 : Dec method_6_code 45 (.lload 6) 2 47 := ⟨by decide +kernel, rfl⟩
theorem f10_47 : Dec method_6_code 47 (.lreturn) 1 48 := ⟨by decide +kernel, rfl⟩
theorem pn_10 : plainFor (⟨"com/example/arbor_center/arborcenter/objective/UpperEnvelopeAddPinLaw", "best", "(JIIII)J"⟩ : MethodName) = true := plainFor_of_name (show plainName "com/example/arbor_center/arborcenter/objective/UpperEnvelopeAddPinLaw" = true by first | (simp [plainName, overriddenIn]; done) | decide +kernel)
theorem ef_10 (m : MethodId) (xx : Int64) (l1 : Int32) (l2 : Int32) (l3 : Int32) (l4 : Int32) : entryFrame m #[(.long xx), (.int l1), (.int l2), (.int l3), (.int l4)] 8 = mkF m 0 #[.val (.long xx), .second, .val (.int l1), .val (.int l2), .val (.int l3), .val (.int l4), .unset, .unset] [] := by first | (simp [entryFrame, mkF, argsToLocals, Value.category]; done) | rfl
def Q10 (Z : State) (xx : Int64) (l1 : Int32) (l2 : Int32) (l3 : Int32) (l4 : Int32) (h0 : Heap) (n0 : Nat) (v9 : Option Value) (h9 : Heap) (L9 : List Loc) : Prop := v9 = some (.long (R12 (R12 (R12 (((1 : Int32) + (l1 &&& (65535 : Int32))).toInt64 * (xx + ((l1.toUInt32 >>> ((16 : Int32) &&& 31).toUInt32).toInt32 &&& (32767 : Int32)).toInt64)) (((1 : Int32) + (l2 &&& (65535 : Int32))).toInt64 * (xx + ((l2.toUInt32 >>> ((16 : Int32) &&& 31).toUInt32).toInt32 &&& (32767 : Int32)).toInt64))) (((1 : Int32) + (l3 &&& (65535 : Int32))).toInt64 * (xx + ((l3.toUInt32 >>> ((16 : Int32) &&& 31).toUInt32).toInt32 &&& (32767 : Int32)).toInt64))) (((1 : Int32) + (l4 &&& (65535 : Int32))).toInt64 * (xx + ((l4.toUInt32 >>> ((16 : Int32) &&& 31).toUInt32).toInt32 &&& (32767 : Int32)).toInt64)))) ∧ Fr n0 L9 ∧ h9 = h0
set_option maxRecDepth 65536 in
set_option maxHeartbeats 40000000 in
theorem rm10 (l : Launch) (Z : State) (a0 : Array Value) (hw : ∀ d ∈ tables_1, d.before a0 Z = true) (ws : List Jvm.Cond) (xx : Int64) (l1 : Int32) (l2 : Int32) (l3 : Int32) (l4 : Int32) (h0 : Heap) (n0 : Nat) (Z0 : n0 ≤ h0.size) :
    MetFree l (⟨"com/example/arbor_center/arborcenter/objective/UpperEnvelopeAddPinLaw", "best", "(JIIII)J"⟩ : MethodName) (head1 (Jvm.Cond.code (⟨"com/example/arbor_center/arborcenter/objective/UpperEnvelopeAddPinLaw", "best", "(JIIII)J"⟩ : MethodName) method_6_code 8 (some .long) :: ws) ({ frames := 2, cells := 0, slots := 0, locals := 32 } : Room)) (fun A9 U9 => A9 = #[(.long xx), (.int l1), (.int l2), (.int l3), (.int l4)] ∧ Z.Warmed39 U9.vm ∧ U9.heap = h0) (fun _ _ _ _ _ => True) (fun _ U9 o9 V9 => ∃ v9 L9, o9 = .returned v9 ∧ (Q10 Z xx l1 l2 l3 l4 h0 n0) v9 V9.heap L9 ∧ FrameEnd U9 o9 V9 L9 ({ frames := 2, cells := 0, slots := 0, locals := 32 } : Room).cells ({ frames := 2, cells := 0, slots := 0, locals := 32 } : Room).slots) := by
  refine met_of (Q := (Q10 Z xx l1 l2 l3 l4 h0 n0)) pn_10 ?_
  intro p e s m below meth c T0 C X0 e0
  have N0 := Fr.nil n0
  refine Go.cast (ef_10 m xx l1 l2 l3 l4) ?_
  refine wlloadN C X0 f10_0 rfl ?_
  refine wiloadN C X0 f10_1 rfl ?_
  refine wstatic C X0 (y := (⟨"com/example/arbor_center/arborcenter/objective/UpperEnvelopeAddPinLaw", "value", "(JI)J"⟩ : MethodName)) (tw_50 hw) (tw_51 hw) (tw_24 hw) (tw_52 hw) (by decide) (rm11 l Z a0 hw [] xx l1 h0 n0 Z0) e0 f10_2 (argsL := [(.long xx), (.int l1)]) (rest := []) rfl rfl (lenOf pd_1 rfl) rfl (W := 0) (Nat.le_of_eq rfl) (by decide) (by decide) (by decide) (by decide) ?_
  intro v1 T1 L1 X1 q1
  obtain ⟨rfl, Nq1, eq1⟩ := q1
  have N1 := Fr.app N0 Nq1
  show Go p e below s _ _ _ T1 (mkF m 5 #[.val (.long xx), .second, .val (.int l1), .val (.int l2), .val (.int l3), .val (.int l4), .unset, .unset] [(.long (((1 : Int32) + (l1 &&& (65535 : Int32))).toInt64 * (xx + ((l1.toUInt32 >>> ((16 : Int32) &&& 31).toUInt32).toInt32 &&& (32767 : Int32)).toInt64)))])
  refine wlstore C X1 f10_5 #[.val (.long xx), .second, .val (.int l1), .val (.int l2), .val (.int l3), .val (.int l4), .val (.long (((1 : Int32) + (l1 &&& (65535 : Int32))).toInt64 * (xx + ((l1.toUInt32 >>> ((16 : Int32) &&& 31).toUInt32).toInt32 &&& (32767 : Int32)).toInt64))), .second] rfl ?_
  refine wlload C X1 f10_7 rfl ?_
  refine wlloadN C X1 f10_9 rfl ?_
  refine wiloadN C X1 f10_10 rfl ?_
  refine wstatic C X1 (y := (⟨"com/example/arbor_center/arborcenter/objective/UpperEnvelopeAddPinLaw", "value", "(JI)J"⟩ : MethodName)) (tw_50 hw) (tw_51 hw) (tw_24 hw) (tw_52 hw) (by decide) (rm11 l Z a0 hw [] xx l2 h0 n0 Z0) eq1 f10_11 (argsL := [(.long xx), (.int l2)]) (rest := [(.long (((1 : Int32) + (l1 &&& (65535 : Int32))).toInt64 * (xx + ((l1.toUInt32 >>> ((16 : Int32) &&& 31).toUInt32).toInt32 &&& (32767 : Int32)).toInt64)))]) rfl rfl (lenOf pd_1 rfl) rfl (W := 2) (Nat.le_of_eq rfl) (by decide) (by decide) (by decide) (by decide) ?_
  intro v2 T2 L2 X2 q2
  obtain ⟨rfl, Nq2, eq2⟩ := q2
  have N2 := Fr.app N1 Nq2
  show Go p e below s _ _ _ T2 (mkF m 14 #[.val (.long xx), .second, .val (.int l1), .val (.int l2), .val (.int l3), .val (.int l4), .val (.long (((1 : Int32) + (l1 &&& (65535 : Int32))).toInt64 * (xx + ((l1.toUInt32 >>> ((16 : Int32) &&& 31).toUInt32).toInt32 &&& (32767 : Int32)).toInt64))), .second] [(.long (((1 : Int32) + (l2 &&& (65535 : Int32))).toInt64 * (xx + ((l2.toUInt32 >>> ((16 : Int32) &&& 31).toUInt32).toInt32 &&& (32767 : Int32)).toInt64))), (.long (((1 : Int32) + (l1 &&& (65535 : Int32))).toInt64 * (xx + ((l1.toUInt32 >>> ((16 : Int32) &&& 31).toUInt32).toInt32 &&& (32767 : Int32)).toInt64)))])
  refine wstatic C X2 (y := (⟨"java/lang/Math", "max", "(JJ)J"⟩ : MethodName)) (tw_53 hw) (tw_54 hw) (tw_45 hw) (tw_55 hw) (by decide) (rm12 l Z a0 hw [] (((1 : Int32) + (l1 &&& (65535 : Int32))).toInt64 * (xx + ((l1.toUInt32 >>> ((16 : Int32) &&& 31).toUInt32).toInt32 &&& (32767 : Int32)).toInt64)) (((1 : Int32) + (l2 &&& (65535 : Int32))).toInt64 * (xx + ((l2.toUInt32 >>> ((16 : Int32) &&& 31).toUInt32).toInt32 &&& (32767 : Int32)).toInt64)) h0 n0 Z0) eq2 f10_14 (argsL := [(.long (((1 : Int32) + (l1 &&& (65535 : Int32))).toInt64 * (xx + ((l1.toUInt32 >>> ((16 : Int32) &&& 31).toUInt32).toInt32 &&& (32767 : Int32)).toInt64))), (.long (((1 : Int32) + (l2 &&& (65535 : Int32))).toInt64 * (xx + ((l2.toUInt32 >>> ((16 : Int32) &&& 31).toUInt32).toInt32 &&& (32767 : Int32)).toInt64)))]) (rest := []) rfl rfl (lenOf pd_2 rfl) rfl (W := 0) (Nat.le_of_eq rfl) (by decide) (by decide) (by decide) (by decide) ?_
  intro v3 T3 L3 X3 q3
  obtain ⟨rfl, Nq3, eq3⟩ := q3
  have N3 := Fr.app N2 Nq3
  show Go p e below s _ _ _ T3 (mkF m 17 #[.val (.long xx), .second, .val (.int l1), .val (.int l2), .val (.int l3), .val (.int l4), .val (.long (((1 : Int32) + (l1 &&& (65535 : Int32))).toInt64 * (xx + ((l1.toUInt32 >>> ((16 : Int32) &&& 31).toUInt32).toInt32 &&& (32767 : Int32)).toInt64))), .second] [(.long (R12 (((1 : Int32) + (l1 &&& (65535 : Int32))).toInt64 * (xx + ((l1.toUInt32 >>> ((16 : Int32) &&& 31).toUInt32).toInt32 &&& (32767 : Int32)).toInt64)) (((1 : Int32) + (l2 &&& (65535 : Int32))).toInt64 * (xx + ((l2.toUInt32 >>> ((16 : Int32) &&& 31).toUInt32).toInt32 &&& (32767 : Int32)).toInt64))))])
  refine wlstore C X3 f10_17 #[.val (.long xx), .second, .val (.int l1), .val (.int l2), .val (.int l3), .val (.int l4), .val (.long (R12 (((1 : Int32) + (l1 &&& (65535 : Int32))).toInt64 * (xx + ((l1.toUInt32 >>> ((16 : Int32) &&& 31).toUInt32).toInt32 &&& (32767 : Int32)).toInt64)) (((1 : Int32) + (l2 &&& (65535 : Int32))).toInt64 * (xx + ((l2.toUInt32 >>> ((16 : Int32) &&& 31).toUInt32).toInt32 &&& (32767 : Int32)).toInt64)))), .second] rfl ?_
  refine wlload C X3 f10_19 rfl ?_
  refine wlloadN C X3 f10_21 rfl ?_
  refine wiload C X3 f10_22 rfl ?_
  refine wstatic C X3 (y := (⟨"com/example/arbor_center/arborcenter/objective/UpperEnvelopeAddPinLaw", "value", "(JI)J"⟩ : MethodName)) (tw_50 hw) (tw_51 hw) (tw_24 hw) (tw_52 hw) (by decide) (rm11 l Z a0 hw [] xx l3 h0 n0 Z0) eq3 f10_24 (argsL := [(.long xx), (.int l3)]) (rest := [(.long (R12 (((1 : Int32) + (l1 &&& (65535 : Int32))).toInt64 * (xx + ((l1.toUInt32 >>> ((16 : Int32) &&& 31).toUInt32).toInt32 &&& (32767 : Int32)).toInt64)) (((1 : Int32) + (l2 &&& (65535 : Int32))).toInt64 * (xx + ((l2.toUInt32 >>> ((16 : Int32) &&& 31).toUInt32).toInt32 &&& (32767 : Int32)).toInt64))))]) rfl rfl (lenOf pd_1 rfl) rfl (W := 2) (Nat.le_of_eq rfl) (by decide) (by decide) (by decide) (by decide) ?_
  intro v4 T4 L4 X4 q4
  obtain ⟨rfl, Nq4, eq4⟩ := q4
  have N4 := Fr.app N3 Nq4
  show Go p e below s _ _ _ T4 (mkF m 27 #[.val (.long xx), .second, .val (.int l1), .val (.int l2), .val (.int l3), .val (.int l4), .val (.long (R12 (((1 : Int32) + (l1 &&& (65535 : Int32))).toInt64 * (xx + ((l1.toUInt32 >>> ((16 : Int32) &&& 31).toUInt32).toInt32 &&& (32767 : Int32)).toInt64)) (((1 : Int32) + (l2 &&& (65535 : Int32))).toInt64 * (xx + ((l2.toUInt32 >>> ((16 : Int32) &&& 31).toUInt32).toInt32 &&& (32767 : Int32)).toInt64)))), .second] [(.long (((1 : Int32) + (l3 &&& (65535 : Int32))).toInt64 * (xx + ((l3.toUInt32 >>> ((16 : Int32) &&& 31).toUInt32).toInt32 &&& (32767 : Int32)).toInt64))), (.long (R12 (((1 : Int32) + (l1 &&& (65535 : Int32))).toInt64 * (xx + ((l1.toUInt32 >>> ((16 : Int32) &&& 31).toUInt32).toInt32 &&& (32767 : Int32)).toInt64)) (((1 : Int32) + (l2 &&& (65535 : Int32))).toInt64 * (xx + ((l2.toUInt32 >>> ((16 : Int32) &&& 31).toUInt32).toInt32 &&& (32767 : Int32)).toInt64))))])
  refine wstatic C X4 (y := (⟨"java/lang/Math", "max", "(JJ)J"⟩ : MethodName)) (tw_53 hw) (tw_54 hw) (tw_45 hw) (tw_55 hw) (by decide) (rm12 l Z a0 hw [] (R12 (((1 : Int32) + (l1 &&& (65535 : Int32))).toInt64 * (xx + ((l1.toUInt32 >>> ((16 : Int32) &&& 31).toUInt32).toInt32 &&& (32767 : Int32)).toInt64)) (((1 : Int32) + (l2 &&& (65535 : Int32))).toInt64 * (xx + ((l2.toUInt32 >>> ((16 : Int32) &&& 31).toUInt32).toInt32 &&& (32767 : Int32)).toInt64))) (((1 : Int32) + (l3 &&& (65535 : Int32))).toInt64 * (xx + ((l3.toUInt32 >>> ((16 : Int32) &&& 31).toUInt32).toInt32 &&& (32767 : Int32)).toInt64)) h0 n0 Z0) eq4 f10_27 (argsL := [(.long (R12 (((1 : Int32) + (l1 &&& (65535 : Int32))).toInt64 * (xx + ((l1.toUInt32 >>> ((16 : Int32) &&& 31).toUInt32).toInt32 &&& (32767 : Int32)).toInt64)) (((1 : Int32) + (l2 &&& (65535 : Int32))).toInt64 * (xx + ((l2.toUInt32 >>> ((16 : Int32) &&& 31).toUInt32).toInt32 &&& (32767 : Int32)).toInt64)))), (.long (((1 : Int32) + (l3 &&& (65535 : Int32))).toInt64 * (xx + ((l3.toUInt32 >>> ((16 : Int32) &&& 31).toUInt32).toInt32 &&& (32767 : Int32)).toInt64)))]) (rest := []) rfl rfl (lenOf pd_2 rfl) rfl (W := 0) (Nat.le_of_eq rfl) (by decide) (by decide) (by decide) (by decide) ?_
  intro v5 T5 L5 X5 q5
  obtain ⟨rfl, Nq5, eq5⟩ := q5
  have N5 := Fr.app N4 Nq5
  show Go p e below s _ _ _ T5 (mkF m 30 #[.val (.long xx), .second, .val (.int l1), .val (.int l2), .val (.int l3), .val (.int l4), .val (.long (R12 (((1 : Int32) + (l1 &&& (65535 : Int32))).toInt64 * (xx + ((l1.toUInt32 >>> ((16 : Int32) &&& 31).toUInt32).toInt32 &&& (32767 : Int32)).toInt64)) (((1 : Int32) + (l2 &&& (65535 : Int32))).toInt64 * (xx + ((l2.toUInt32 >>> ((16 : Int32) &&& 31).toUInt32).toInt32 &&& (32767 : Int32)).toInt64)))), .second] [(.long (R12 (R12 (((1 : Int32) + (l1 &&& (65535 : Int32))).toInt64 * (xx + ((l1.toUInt32 >>> ((16 : Int32) &&& 31).toUInt32).toInt32 &&& (32767 : Int32)).toInt64)) (((1 : Int32) + (l2 &&& (65535 : Int32))).toInt64 * (xx + ((l2.toUInt32 >>> ((16 : Int32) &&& 31).toUInt32).toInt32 &&& (32767 : Int32)).toInt64))) (((1 : Int32) + (l3 &&& (65535 : Int32))).toInt64 * (xx + ((l3.toUInt32 >>> ((16 : Int32) &&& 31).toUInt32).toInt32 &&& (32767 : Int32)).toInt64))))])
  refine wlstore C X5 f10_30 #[.val (.long xx), .second, .val (.int l1), .val (.int l2), .val (.int l3), .val (.int l4), .val (.long (R12 (R12 (((1 : Int32) + (l1 &&& (65535 : Int32))).toInt64 * (xx + ((l1.toUInt32 >>> ((16 : Int32) &&& 31).toUInt32).toInt32 &&& (32767 : Int32)).toInt64)) (((1 : Int32) + (l2 &&& (65535 : Int32))).toInt64 * (xx + ((l2.toUInt32 >>> ((16 : Int32) &&& 31).toUInt32).toInt32 &&& (32767 : Int32)).toInt64))) (((1 : Int32) + (l3 &&& (65535 : Int32))).toInt64 * (xx + ((l3.toUInt32 >>> ((16 : Int32) &&& 31).toUInt32).toInt32 &&& (32767 : Int32)).toInt64)))), .second] rfl ?_
  refine wlload C X5 f10_32 rfl ?_
  refine wlloadN C X5 f10_34 rfl ?_
  refine wiload C X5 f10_35 rfl ?_
  refine wstatic C X5 (y := (⟨"com/example/arbor_center/arborcenter/objective/UpperEnvelopeAddPinLaw", "value", "(JI)J"⟩ : MethodName)) (tw_50 hw) (tw_51 hw) (tw_24 hw) (tw_52 hw) (by decide) (rm11 l Z a0 hw [] xx l4 h0 n0 Z0) eq5 f10_37 (argsL := [(.long xx), (.int l4)]) (rest := [(.long (R12 (R12 (((1 : Int32) + (l1 &&& (65535 : Int32))).toInt64 * (xx + ((l1.toUInt32 >>> ((16 : Int32) &&& 31).toUInt32).toInt32 &&& (32767 : Int32)).toInt64)) (((1 : Int32) + (l2 &&& (65535 : Int32))).toInt64 * (xx + ((l2.toUInt32 >>> ((16 : Int32) &&& 31).toUInt32).toInt32 &&& (32767 : Int32)).toInt64))) (((1 : Int32) + (l3 &&& (65535 : Int32))).toInt64 * (xx + ((l3.toUInt32 >>> ((16 : Int32) &&& 31).toUInt32).toInt32 &&& (32767 : Int32)).toInt64))))]) rfl rfl (lenOf pd_1 rfl) rfl (W := 2) (Nat.le_of_eq rfl) (by decide) (by decide) (by decide) (by decide) ?_
  intro v6 T6 L6 X6 q6
  obtain ⟨rfl, Nq6, eq6⟩ := q6
  have N6 := Fr.app N5 Nq6
  show Go p e below s _ _ _ T6 (mkF m 40 #[.val (.long xx), .second, .val (.int l1), .val (.int l2), .val (.int l3), .val (.int l4), .val (.long (R12 (R12 (((1 : Int32) + (l1 &&& (65535 : Int32))).toInt64 * (xx + ((l1.toUInt32 >>> ((16 : Int32) &&& 31).toUInt32).toInt32 &&& (32767 : Int32)).toInt64)) (((1 : Int32) + (l2 &&& (65535 : Int32))).toInt64 * (xx + ((l2.toUInt32 >>> ((16 : Int32) &&& 31).toUInt32).toInt32 &&& (32767 : Int32)).toInt64))) (((1 : Int32) + (l3 &&& (65535 : Int32))).toInt64 * (xx + ((l3.toUInt32 >>> ((16 : Int32) &&& 31).toUInt32).toInt32 &&& (32767 : Int32)).toInt64)))), .second] [(.long (((1 : Int32) + (l4 &&& (65535 : Int32))).toInt64 * (xx + ((l4.toUInt32 >>> ((16 : Int32) &&& 31).toUInt32).toInt32 &&& (32767 : Int32)).toInt64))), (.long (R12 (R12 (((1 : Int32) + (l1 &&& (65535 : Int32))).toInt64 * (xx + ((l1.toUInt32 >>> ((16 : Int32) &&& 31).toUInt32).toInt32 &&& (32767 : Int32)).toInt64)) (((1 : Int32) + (l2 &&& (65535 : Int32))).toInt64 * (xx + ((l2.toUInt32 >>> ((16 : Int32) &&& 31).toUInt32).toInt32 &&& (32767 : Int32)).toInt64))) (((1 : Int32) + (l3 &&& (65535 : Int32))).toInt64 * (xx + ((l3.toUInt32 >>> ((16 : Int32) &&& 31).toUInt32).toInt32 &&& (32767 : Int32)).toInt64))))])
  refine wstatic C X6 (y := (⟨"java/lang/Math", "max", "(JJ)J"⟩ : MethodName)) (tw_53 hw) (tw_54 hw) (tw_45 hw) (tw_55 hw) (by decide) (rm12 l Z a0 hw [] (R12 (R12 (((1 : Int32) + (l1 &&& (65535 : Int32))).toInt64 * (xx + ((l1.toUInt32 >>> ((16 : Int32) &&& 31).toUInt32).toInt32 &&& (32767 : Int32)).toInt64)) (((1 : Int32) + (l2 &&& (65535 : Int32))).toInt64 * (xx + ((l2.toUInt32 >>> ((16 : Int32) &&& 31).toUInt32).toInt32 &&& (32767 : Int32)).toInt64))) (((1 : Int32) + (l3 &&& (65535 : Int32))).toInt64 * (xx + ((l3.toUInt32 >>> ((16 : Int32) &&& 31).toUInt32).toInt32 &&& (32767 : Int32)).toInt64))) (((1 : Int32) + (l4 &&& (65535 : Int32))).toInt64 * (xx + ((l4.toUInt32 >>> ((16 : Int32) &&& 31).toUInt32).toInt32 &&& (32767 : Int32)).toInt64)) h0 n0 Z0) eq6 f10_40 (argsL := [(.long (R12 (R12 (((1 : Int32) + (l1 &&& (65535 : Int32))).toInt64 * (xx + ((l1.toUInt32 >>> ((16 : Int32) &&& 31).toUInt32).toInt32 &&& (32767 : Int32)).toInt64)) (((1 : Int32) + (l2 &&& (65535 : Int32))).toInt64 * (xx + ((l2.toUInt32 >>> ((16 : Int32) &&& 31).toUInt32).toInt32 &&& (32767 : Int32)).toInt64))) (((1 : Int32) + (l3 &&& (65535 : Int32))).toInt64 * (xx + ((l3.toUInt32 >>> ((16 : Int32) &&& 31).toUInt32).toInt32 &&& (32767 : Int32)).toInt64)))), (.long (((1 : Int32) + (l4 &&& (65535 : Int32))).toInt64 * (xx + ((l4.toUInt32 >>> ((16 : Int32) &&& 31).toUInt32).toInt32 &&& (32767 : Int32)).toInt64)))]) (rest := []) rfl rfl (lenOf pd_2 rfl) rfl (W := 0) (Nat.le_of_eq rfl) (by decide) (by decide) (by decide) (by decide) ?_
  intro v7 T7 L7 X7 q7
  obtain ⟨rfl, Nq7, eq7⟩ := q7
  have N7 := Fr.app N6 Nq7
  show Go p e below s _ _ _ T7 (mkF m 43 #[.val (.long xx), .second, .val (.int l1), .val (.int l2), .val (.int l3), .val (.int l4), .val (.long (R12 (R12 (((1 : Int32) + (l1 &&& (65535 : Int32))).toInt64 * (xx + ((l1.toUInt32 >>> ((16 : Int32) &&& 31).toUInt32).toInt32 &&& (32767 : Int32)).toInt64)) (((1 : Int32) + (l2 &&& (65535 : Int32))).toInt64 * (xx + ((l2.toUInt32 >>> ((16 : Int32) &&& 31).toUInt32).toInt32 &&& (32767 : Int32)).toInt64))) (((1 : Int32) + (l3 &&& (65535 : Int32))).toInt64 * (xx + ((l3.toUInt32 >>> ((16 : Int32) &&& 31).toUInt32).toInt32 &&& (32767 : Int32)).toInt64)))), .second] [(.long (R12 (R12 (R12 (((1 : Int32) + (l1 &&& (65535 : Int32))).toInt64 * (xx + ((l1.toUInt32 >>> ((16 : Int32) &&& 31).toUInt32).toInt32 &&& (32767 : Int32)).toInt64)) (((1 : Int32) + (l2 &&& (65535 : Int32))).toInt64 * (xx + ((l2.toUInt32 >>> ((16 : Int32) &&& 31).toUInt32).toInt32 &&& (32767 : Int32)).toInt64))) (((1 : Int32) + (l3 &&& (65535 : Int32))).toInt64 * (xx + ((l3.toUInt32 >>> ((16 : Int32) &&& 31).toUInt32).toInt32 &&& (32767 : Int32)).toInt64))) (((1 : Int32) + (l4 &&& (65535 : Int32))).toInt64 * (xx + ((l4.toUInt32 >>> ((16 : Int32) &&& 31).toUInt32).toInt32 &&& (32767 : Int32)).toInt64))))])
  refine wlstore C X7 f10_43 #[.val (.long xx), .second, .val (.int l1), .val (.int l2), .val (.int l3), .val (.int l4), .val (.long (R12 (R12 (R12 (((1 : Int32) + (l1 &&& (65535 : Int32))).toInt64 * (xx + ((l1.toUInt32 >>> ((16 : Int32) &&& 31).toUInt32).toInt32 &&& (32767 : Int32)).toInt64)) (((1 : Int32) + (l2 &&& (65535 : Int32))).toInt64 * (xx + ((l2.toUInt32 >>> ((16 : Int32) &&& 31).toUInt32).toInt32 &&& (32767 : Int32)).toInt64))) (((1 : Int32) + (l3 &&& (65535 : Int32))).toInt64 * (xx + ((l3.toUInt32 >>> ((16 : Int32) &&& 31).toUInt32).toInt32 &&& (32767 : Int32)).toInt64))) (((1 : Int32) + (l4 &&& (65535 : Int32))).toInt64 * (xx + ((l4.toUInt32 >>> ((16 : Int32) &&& 31).toUInt32).toInt32 &&& (32767 : Int32)).toInt64)))), .second] rfl ?_
  refine wlload C X7 f10_45 rfl ?_
  refine wlret C X7 f10_47 rfl (by decide) (by decide) ?_
  rw [eq7]
  exact ⟨rfl, N7, rfl⟩
theorem own_nn {i : Int} {a : UInt64} (h : FP.Core.DInt i a) : Jvm.Free.Fl.NoNaN64 a := Jvm.Free.Fl.val64_no.mpr (FP.Core.DInt_ne_nan h)
theorem own_cv {i j : Int} {a b : UInt64} (ha : FP.Core.DInt i a) (hb : FP.Core.DInt j b) (o : CmpOp) : cmpValue (FP.dcmp a b) o = if i < j then -1 else if i = j then 0 else 1 := by
  have h : FP.dcmp a b = some (compare i j) := FP.Core.dcmp_int ha hb
  rw [h]
  simp only [compare, compareOfLessAndEq]
  split
  · rfl
  · split <;> rfl
theorem own_lt {i j : Int} {a b : UInt64} (ha : FP.Core.DInt i a) (hb : FP.Core.DInt j b) (o : CmpOp) : cmpValue (FP.dcmp a b) o < (0 : Int32) ↔ i < j := by
  rw [own_cv ha hb]
  split
  · exact ⟨fun _ => by assumption, fun _ => by decide⟩
  · split
    · exact ⟨fun q => absurd q (by decide), fun q => by omega⟩
    · exact ⟨fun q => absurd q (by decide), fun q => by omega⟩
theorem own_eq {i j : Int} {a b : UInt64} (ha : FP.Core.DInt i a) (hb : FP.Core.DInt j b) (o : CmpOp) : cmpValue (FP.dcmp a b) o = (0 : Int32) ↔ i = j := by
  rw [own_cv ha hb]
  split
  · exact ⟨fun q => absurd q (by decide), fun q => by omega⟩
  · split
    · exact ⟨fun _ => by assumption, fun _ => by decide⟩
    · exact ⟨fun q => absurd q (by decide), fun q => by omega⟩
theorem own_gt {i j : Int} {a b : UInt64} (ha : FP.Core.DInt i a) (hb : FP.Core.DInt j b) (o : CmpOp) : (0 : Int32) < cmpValue (FP.dcmp a b) o ↔ j < i := by
  rw [own_cv ha hb]
  split
  · exact ⟨fun q => absurd q (by decide), fun q => by omega⟩
  · split
    · exact ⟨fun q => absurd q (by decide), fun q => by omega⟩
    · exact ⟨fun _ => by omega, fun _ => by decide⟩
theorem own_i2d (a : Int32) : FP.Core.DInt a.toInt (FP.i2d a) := FP.Core.i2d_int a
theorem own_l2d {a : Int64} (h : a.toInt.natAbs ≤ 2 ^ 53) : FP.Core.DInt a.toInt (FP.l2d a) := FP.Core.l2d_int h
theorem own_neg {i : Int} {a : UInt64} (h : FP.Core.DInt i a) : FP.Core.DInt (-i) (FP.dneg a) := by
  show FP.Core.Whole (-i) (FP.Core.val64 (FP.dneg a))
  rw [FP.val64_dneg]; exact FP.Core.whole_negate h
section Half
open Jvm.FP.Core
def own_dsh : Datum → Datum
  | .nan => .nan
  | .inf s => .inf s
  | .fin s c q => .fin s c (q + 1)
def own_H (i : Int) (a : UInt64) : Prop := Whole i (own_dsh (val64 a))
theorem own_dsh_round {i : Int} (hi : i.natAbs ≤ 2 ^ 53) {d : Datum} (h : Whole i (own_dsh d)) : Whole i (own_dsh (round b64 d)) := by
  cases d with
  | nan => exact h.elim
  | inf => exact h.elim
  | fin s c q =>
    have h' : Whole i (.fin s c (q + 1)) := h
    by_cases hi0 : i = 0
    · have hc : c = 0 := (whole_zero h').mpr hi0
      subst hc hi0
      show Whole 0 (own_dsh (roundRatio b64 s 0 1 q))
      have e : roundRatio b64 s 0 1 q = .fin s 0 b64.qmin := by unfold roundRatio; exact if_pos rfl
      rw [e]
      show signed s (0 * _) = 0 * _
      rw [Nat.zero_mul, Int.zero_mul]
      exact signed_zero s
    · obtain ⟨c', q', hfit, hv⟩ := natFit good_b64 wide_b64 s (n := i.natAbs) hi
      obtain ⟨f1, f2, f3, f4⟩ := hfit
      have hqm : b64.qmin = -1074 := by decide
      have hpp : b64.p = 53 := by decide
      have hq : b64.qmin + 1 ≤ q' := by
        by_cases hh : b64.qmin + 1 ≤ q'
        · exact hh
        · exfalso
          have e : q' = -1074 := by omega
          subst e
          have e1 : (0 - (-1074 : Int)).toNat = 1074 := by decide
          have e2 : ((-1074 : Int) - 0).toNat = 0 := by decide
          rw [e1, e2] at hv
          simp only [Nat.mul_one, Nat.pow_zero] at hv
          rw [hpp] at f1
          have p1 : (2 : Nat) ^ 53 ≤ 2 ^ 1074 := Nat.pow_le_pow_right (by decide) (by decide)
          have p2 : 1 ≤ i.natAbs := by omega
          have p3 : 1 * 2 ^ 1074 ≤ i.natAbs * 2 ^ 1074 := Nat.mul_le_mul_right _ p2
          omega
      have w := whole_round good_b64 wide_b64 (show i.natAbs ≤ 2 ^ b64.p from hi) h'
      rw [round_whole h', roundRatio_exact good_b64 (by decide) ⟨f1, f2, f3, f4⟩ hv] at w
      have f4' : b64.tails ≤ c' := by
        rcases f4 with f4 | f4
        · omega
        · exact f4
      have r : round b64 (.fin s c q) = .fin s c' (q' - 1) := by
        show roundRatio b64 s c 1 q = _
        have k := whole_natAbs h'
        have c1 : c * 1 * 2 ^ (q - (-1)).toNat = i.natAbs * 1 * 2 ^ ((-1) - q).toNat := by
          rw [show (q - (-1)).toNat = (q + 1).toNat by congr 1, show ((-1) - q).toNat = (-(q + 1)).toNat by congr 1; omega, Nat.mul_one, Nat.mul_one]
          exact k
        rw [roundRatio_congr (f := b64) (s := s) (by decide) (by decide) c1]
        refine roundRatio_exact good_b64 (by decide) ⟨f1, by omega, by omega, Or.inr f4'⟩ ?_
        rw [show ((-1 : Int) - (q' - 1)).toNat = (0 - q').toNat by congr 1; omega, show ((q' - 1) - (-1)).toNat = (q' - 0).toNat by congr 1; omega]
        exact hv
      rw [r]
      show Whole i (.fin s c' (q' - 1 + 1))
      rw [Int.sub_add_cancel]
      exact w
theorem own_dsh_units (c : Nat) (q e : Int) : inUnits c (q + 1) (e + 1) = inUnits c q e := by
  unfold inUnits; rw [Int.add_sub_add_right]
theorem own_min1 (q r : Int) : min (q + 1) (r + 1) = min q r + 1 := by omega
theorem own_dsh_sum (x y : Datum) : exactSum (own_dsh x) (own_dsh y) = own_dsh (exactSum x y) := by
  cases x with
  | nan => rfl
  | inf s => cases y with
    | nan => rfl
    | inf t => show (if s = t then Datum.inf s else .nan) = own_dsh (if s = t then Datum.inf s else .nan); split <;> rfl
    | fin => rfl
  | fin s c q => cases y with
    | nan => rfl
    | inf => rfl
    | fin t d r =>
      show exactSum (.fin s c (q + 1)) (.fin t d (r + 1)) = own_dsh (exactSum (.fin s c q) (.fin t d r))
      simp only [exactSum, own_dsh, own_min1, sumUnits, own_dsh_units]
theorem own_dsh_prod (x y : Datum) : exactProduct x (own_dsh y) = own_dsh (exactProduct x y) := by
  cases x with
  | nan => rfl
  | inf s => cases y with
    | nan => rfl
    | inf t => rfl
    | fin t d r => show (if d = 0 then Datum.nan else .inf (s != t)) = own_dsh (if d = 0 then Datum.nan else .inf (s != t)); split <;> rfl
  | fin s c q => cases y with
    | nan => rfl
    | inf t => show (if c = 0 then Datum.nan else .inf (s != t)) = own_dsh (if c = 0 then Datum.nan else .inf (s != t)); split <;> rfl
    | fin t d r => show Datum.fin (s != t) (c * d) (q + (r + 1)) = Datum.fin (s != t) (c * d) (q + r + 1); rw [Int.add_assoc]
theorem own_dsh_order (x y : Datum) : order (own_dsh x) (own_dsh y) = order x y := by
  cases x with
  | nan => rfl
  | inf s => cases y <;> rfl
  | fin s c q => cases y with
    | nan => rfl
    | inf => rfl
    | fin t d r =>
      show order (.fin s c (q + 1)) (.fin t d (r + 1)) = order (.fin s c q) (.fin t d r)
      simp only [order, own_min1, own_dsh_units]
theorem own_H_nn {i : Int} {a : UInt64} (h : own_H i a) : Jvm.Free.Fl.NoNaN64 a := Jvm.Free.Fl.val64_no.mpr fun q => by
  unfold own_H at h; rw [q] at h; exact h.elim
theorem own_H_add {i j : Int} {a b : UInt64} (ha : own_H i a) (hb : own_H j b) (h : (i + j).natAbs ≤ 2 ^ 53) : own_H (i + j) (FP.dadd a b) := by
  show Whole (i + j) (own_dsh (val64 (dadd a b)))
  rw [val64_dadd]
  exact own_dsh_round h (by rw [← own_dsh_sum]; exact whole_sum ha hb)
theorem own_H_mul {i j : Int} {a b : UInt64} (ha : DInt i a) (hb : own_H j b) (h : (i * j).natAbs ≤ 2 ^ 53) : own_H (i * j) (FP.dmul a b) := by
  show Whole (i * j) (own_dsh (val64 (dmul a b)))
  rw [val64_dmul]
  exact own_dsh_round h (by rw [← own_dsh_prod]; exact whole_product ha hb)
theorem own_two : val64 4611686018427387904 = own_dsh (val64 dconst1) := by decide +kernel
theorem own_H_dbl {i : Int} {a : UInt64} (ha : own_H i a) (h : i.natAbs ≤ 2 ^ 53) : DInt i (FP.dmul 4611686018427387904 a) := by
  show Whole i (val64 (dmul 4611686018427387904 a))
  rw [val64_dmul, own_two, exactProduct_comm, own_dsh_prod, exactProduct_comm, ← own_dsh_prod]
  refine whole_round good_b64 wide_b64 (show i.natAbs ≤ 2 ^ b64.p from h) ?_
  have w := whole_product (show DInt 1 dconst1 from dint_one) ha
  rwa [Int.one_mul] at w
theorem own_H_div {i : Int} {a : UInt64} (ha : DInt i a) (h : i.natAbs ≤ 2 ^ 53) : own_H i (FP.ddiv a 4611686018427387904) := by
  show Whole i (own_dsh (val64 (ddiv a 4611686018427387904)))
  rw [val64_ddiv]
  have e2 : val64 4611686018427387904 = .fin false (2 ^ 52) (-51) := by decide +kernel
  rw [e2]
  unfold DInt at ha
  generalize val64 a = x at ha
  cases x with
  | nan => exact ha.elim
  | inf => exact ha.elim
  | fin s c q =>
    have e3 : quotient b64 (.fin s c q) (.fin false (2 ^ 52) (-51)) = round b64 (.fin s c (q - 1)) := by
      show (if (2 ^ 52 : Nat) = 0 then (if c = 0 then Datum.nan else Datum.inf (s != false)) else roundRatio b64 (s != false) c (2 ^ 52) (q - (-51))) = roundRatio b64 s c 1 (q - 1)
      rw [if_neg (by decide), show (s != false) = s by cases s <;> rfl]
      refine roundRatio_congr (by decide) (by decide) ?_
      rw [show ((q - (-51)) - (q - 1)).toNat = 52 by omega, show ((q - 1) - (q - (-51))).toNat = 0 by omega, Nat.mul_one, Nat.pow_zero, Nat.mul_one]
    rw [e3]
    refine own_dsh_round h ?_
    show Whole i (.fin s c (q - 1 + 1))
    rw [Int.sub_add_cancel]
    exact ha
theorem own_H_cmp {i j : Int} {a b : UInt64} (ha : own_H i a) (hb : own_H j b) : FP.dcmp a b = some (compare i j) := by
  show order (val64 a) (val64 b) = _
  rw [← own_dsh_order]
  exact order_whole ha hb
theorem own_H_0 : own_H 0 0 := by
  show Whole 0 (own_dsh (val64 0))
  rw [val64_zero]
  show signed false (0 * _) = 0 * _
  rw [Nat.zero_mul, Int.zero_mul]
  exact signed_zero false
theorem own_H_cv {i j : Int} {a b : UInt64} (ha : own_H i a) (hb : own_H j b) (o : CmpOp) : cmpValue (FP.dcmp a b) o = if i < j then -1 else if i = j then 0 else 1 := by
  rw [own_H_cmp ha hb]
  simp only [compare, compareOfLessAndEq]
  split
  · rfl
  · split <;> rfl
theorem own_H_gt {i j : Int} {a b : UInt64} (ha : own_H i a) (hb : own_H j b) (o : CmpOp) : (0 : Int32) < cmpValue (FP.dcmp a b) o ↔ j < i := by
  rw [own_H_cv ha hb]
  split
  · exact ⟨fun q => absurd q (by decide), fun q => by omega⟩
  · split
    · exact ⟨fun q => absurd q (by decide), fun q => by omega⟩
    · exact ⟨fun _ => by omega, fun _ => by decide⟩
theorem own_H_max {i j : Int} {a b : UInt64} (ha : own_H i a) (hb : own_H j b) : own_H (max i j) (Jvm.Native.java_lang_Math.nans.pick64 true a b) := by
  unfold Jvm.Native.java_lang_Math.nans.pick64
  rw [own_H_cmp ha hb]
  simp only [compare, compareOfLessAndEq]
  by_cases h1 : i < j
  · rw [if_pos h1]
    show own_H (max i j) b
    rw [show max i j = j by omega]; exact hb
  · rw [if_neg h1]
    by_cases h2 : i = j
    · rw [if_pos h2]
      subst h2
      rw [show max i i = i by omega]
      show own_H i (if _ then b else a)
      split
      · exact hb
      · exact ha
    · rw [if_neg h2]
      show own_H (max i j) a
      rw [show max i j = i by omega]; exact ha
end Half
section LiChao
def own_pm : Nat → Nat → Nat → Nat → (Nat → Int) → (Nat → Int) → Int → Nat → Int
  | 0, node, _, _, W, D, v, _ => max (W node * (v + D node)) 0
  | f + 1, node, lo, hi, W, D, v, i => max (W node * (v + D node)) (if lo = hi then 0 else if i ≤ (lo + hi) / 2 then own_pm f (node + 1) lo ((lo + hi) / 2) W D v i else own_pm f (node + 2 * ((lo + hi) / 2 - lo + 1)) ((lo + hi) / 2 + 1) hi W D v i)
def own_upd (W : Nat → Int) (n : Nat) (w : Int) : Nat → Int := fun j => if j = n then w else W j
theorem own_upd_same (W : Nat → Int) (n : Nat) (w : Int) : own_upd W n w n = w := if_pos rfl
theorem own_upd_ne {W : Nat → Int} {n j : Nat} {w : Int} (h : j ≠ n) : own_upd W n w j = W j := if_neg h
theorem own_pm_congr : ∀ (f node lo hi : Nat) (W D W' D' : Nat → Int) (v : Int) (i : Nat), lo ≤ hi → (∀ j, node ≤ j → j < node + (2 * (hi - lo + 1) - 1) → W' j = W j ∧ D' j = D j) → own_pm f node lo hi W' D' v i = own_pm f node lo hi W D v i
  | 0, node, lo, hi, W, D, W', D', v, i, hl, h => by
    have q := h node (Nat.le_refl _) (by omega)
    simp only [own_pm, q.1, q.2]
  | f + 1, node, lo, hi, W, D, W', D', v, i, hl, h => by
    have q := h node (Nat.le_refl _) (by omega)
    simp only [own_pm, q.1, q.2]
    by_cases e : lo = hi
    · rw [if_pos e, if_pos e]
    · rw [if_neg e, if_neg e]
      by_cases k : i ≤ (lo + hi) / 2
      · rw [if_pos k, if_pos k, own_pm_congr f (node + 1) lo ((lo + hi) / 2) W D W' D' v i (by omega) (fun j a b => h j (by omega) (by omega))]
      · rw [if_neg k, if_neg k, own_pm_congr f (node + 2 * ((lo + hi) / 2 - lo + 1)) ((lo + hi) / 2 + 1) hi W D W' D' v i (by omega) (fun j a b => h j (by omega) (by omega))]
def own_Ins (f node lo hi : Nat) (P : Nat → Int) (W D : Nat → Int) (w d : Int) (W' D' : Nat → Int) : Prop :=
  (∀ i, lo ≤ i → i ≤ hi → own_pm f node lo hi W' D' (P i) i = max (own_pm f node lo hi W D (P i) i) (w * (P i + d))) ∧ ∀ j, j < node ∨ node + (2 * (hi - lo + 1) - 1) ≤ j → W' j = W j ∧ D' j = D j
/-- two lines: where the first climbs slower it stays beneath behind a point where it is beneath -/
theorem own_mono_lt {w1 d1 w2 d2 a b : Int} (h : w1 ≤ w2) (hab : a ≤ b) (q : w1 * (a + d1) ≤ w2 * (a + d2)) : w1 * (b + d1) ≤ w2 * (b + d2) := by
  have e1 : w1 * (b + d1) = w1 * (a + d1) + w1 * (b - a) := by rw [← Int.mul_add]; congr 1; omega
  have e2 : w2 * (b + d2) = w2 * (a + d2) + w2 * (b - a) := by rw [← Int.mul_add]; congr 1; omega
  have e3 : w1 * (b - a) ≤ w2 * (b - a) := Int.mul_le_mul_of_nonneg_right h (by omega)
  rw [e1, e2]; omega
theorem own_mono_gt {w1 d1 w2 d2 a b : Int} (h : w2 ≤ w1) (hab : b ≤ a) (q : w1 * (a + d1) ≤ w2 * (a + d2)) : w1 * (b + d1) ≤ w2 * (b + d2) := by
  have e1 : w1 * (a + d1) = w1 * (b + d1) + w1 * (a - b) := by rw [← Int.mul_add]; congr 1; omega
  have e2 : w2 * (a + d2) = w2 * (b + d2) + w2 * (a - b) := by rw [← Int.mul_add]; congr 1; omega
  have e3 : w2 * (a - b) ≤ w1 * (a - b) := Int.mul_le_mul_of_nonneg_right h (by omega)
  rw [e1, e2] at q; omega
/-- the exchange at a node -/
theorem own_swap {f node lo hi : Nat} {W D : Nat → Int} {w d v : Int} {i : Nat} (hl : lo ≤ hi) :
    max (own_pm f node lo hi (own_upd W node w) (own_upd D node d) v i) (W node * (v + D node)) = max (own_pm f node lo hi W D v i) (w * (v + d)) := by
  cases f with
  | zero => simp only [own_pm, own_upd_same]; omega
  | succ f =>
    simp only [own_pm, own_upd_same]
    by_cases e : lo = hi
    · rw [if_pos e, if_pos e]; omega
    · rw [if_neg e, if_neg e]
      by_cases k : i ≤ (lo + hi) / 2
      · rw [if_pos k, if_pos k, own_pm_congr f (node + 1) lo ((lo + hi) / 2) W D (own_upd W node w) (own_upd D node d) v i (by omega) (fun j a b => ⟨own_upd_ne (by omega), own_upd_ne (by omega)⟩)]
        omega
      · rw [if_neg k, if_neg k, own_pm_congr f (node + 2 * ((lo + hi) / 2 - lo + 1)) ((lo + hi) / 2 + 1) hi W D (own_upd W node w) (own_upd D node d) v i (by omega) (fun j a b => ⟨own_upd_ne (by omega), own_upd_ne (by omega)⟩)]
        omega
theorem own_pm_ge {f node lo hi : Nat} {W D : Nat → Int} {v : Int} {i : Nat} : W node * (v + D node) ≤ own_pm f node lo hi W D v i := by
  cases f with
  | zero => simp only [own_pm]; omega
  | succ f => simp only [own_pm]; omega
/-- nothing more to do: the line lies beneath the node's own everywhere -/
theorem own_ins_stop {f node lo hi : Nat} {P W D : Nat → Int} {w d : Int} (h : ∀ i, lo ≤ i → i ≤ hi → w * (P i + d) ≤ W node * (P i + D node)) : own_Ins f node lo hi P W D w d W D :=
  ⟨fun i a b => by have q := h i a b; have r := own_pm_ge (f := f) (node := node) (lo := lo) (hi := hi) (W := W) (D := D) (v := P i) (i := i); omega, fun j _ => ⟨rfl, rfl⟩⟩
theorem own_ins_left {f node lo hi : Nat} {P W D : Nat → Int} {w d : Int} {W' D' : Nat → Int} (hl : lo < hi) (h : ∀ i, (lo + hi) / 2 < i → i ≤ hi → w * (P i + d) ≤ W node * (P i + D node)) (q : own_Ins f (node + 1) lo ((lo + hi) / 2) P W D w d W' D') : own_Ins (f + 1) node lo hi P W D w d W' D' := by
  obtain ⟨q1, q2⟩ := q
  refine ⟨fun i a b => ?_, fun j hj => q2 j (by omega)⟩
  have en := q2 node (by omega)
  simp only [own_pm, en.1, en.2]
  have hlh : ¬ lo = hi := by omega
  rw [if_neg hlh, if_neg hlh]
  by_cases k : i ≤ (lo + hi) / 2
  · rw [if_pos k, if_pos k, q1 i a k]; omega
  · rw [if_neg k, if_neg k, own_pm_congr f (node + 2 * ((lo + hi) / 2 - lo + 1)) ((lo + hi) / 2 + 1) hi W D W' D' (P i) i (by omega) (fun j a b => q2 j (by omega))]
    have r := h i (by omega) b
    omega
theorem own_ins_right {f node lo hi : Nat} {P W D : Nat → Int} {w d : Int} {W' D' : Nat → Int} (hl : lo < hi) (h : ∀ i, lo ≤ i → i ≤ (lo + hi) / 2 → w * (P i + d) ≤ W node * (P i + D node)) (q : own_Ins f (node + 2 * ((lo + hi) / 2 - lo + 1)) ((lo + hi) / 2 + 1) hi P W D w d W' D') : own_Ins (f + 1) node lo hi P W D w d W' D' := by
  obtain ⟨q1, q2⟩ := q
  refine ⟨fun i a b => ?_, fun j hj => q2 j (by omega)⟩
  have en := q2 node (by omega)
  simp only [own_pm, en.1, en.2]
  have hlh : ¬ lo = hi := by omega
  rw [if_neg hlh, if_neg hlh]
  by_cases k : i ≤ (lo + hi) / 2
  · rw [if_pos k, if_pos k, own_pm_congr f (node + 1) lo ((lo + hi) / 2) W D W' D' (P i) i (by omega) (fun j a b => q2 j (by omega))]
    have r := h i a k
    omega
  · rw [if_neg k, if_neg k, q1 i (by omega) b]; omega
/-- over the exchange -/
theorem own_ins_swap {f node lo hi : Nat} {P W D : Nat → Int} {w d : Int} {W' D' : Nat → Int} (hl : lo ≤ hi) (q : own_Ins f node lo hi P (own_upd W node w) (own_upd D node d) (W node) (D node) W' D') : own_Ins f node lo hi P W D w d W' D' := by
  obtain ⟨q1, q2⟩ := q
  refine ⟨fun i a b => ?_, fun j hj => ?_⟩
  · rw [q1 i a b, own_swap hl]
  · have r := q2 j hj
    rw [own_upd_ne (by omega), own_upd_ne (by omega)] at r
    exact r
end LiChao
section Env
def own_L (w d : Int) (u v : UInt64) : Prop := FP.Core.DInt w u ∧ own_H d v ∧ 0 ≤ w ∧ w ≤ 65536 ∧ 0 ≤ d ∧ d ≤ 32768
def own_P (q : Int) (u : UInt64) : Prop := own_H q u ∧ 0 ≤ q ∧ q ≤ 65536
theorem own_pd {q w d : Int} {t u v : UInt64} (hp : own_P q t) (hl : own_L w d u v) : own_H (q + d) (FP.dadd t v) := own_H_add hp.1 hl.2.1 (by unfold own_P at hp; unfold own_L at hl; omega)
theorem own_lvb {q w d : Int} {t u v : UInt64} (hp : own_P q t) (hl : own_L w d u v) : 0 ≤ w * (q + d) ∧ w * (q + d) ≤ 6442450944 := by
  unfold own_P at hp; unfold own_L at hl
  have m := mc (a := w) (b := q + d) (l1 := 0) (h1 := 65536) (l2 := 0) (h2 := 98304) (by omega) (by omega) (by omega) (by omega)
  omega
theorem own_lv {q w d : Int} {t u v : UInt64} (hp : own_P q t) (hl : own_L w d u v) : own_H (w * (q + d)) (FP.dmul u (FP.dadd t v)) := own_H_mul hl.1 (own_pd hp hl) (by have := own_lvb hp hl; omega)
def own_Ls (ls : List Value) (W D : Nat → Int) : Prop := ls.length = 14 ∧ ∀ j, j < 7 → ∃ u v, ls.getD (2 * j) (.double (0 : UInt64)) = .double u ∧ ls.getD (2 * j + 1) (.double (0 : UInt64)) = .double v ∧ own_L (W j) (D j) u v
theorem own_g_same {ls : List Value} {i : Nat} {v e : Value} (h : i < ls.length) : (ls.set i v).getD i e = v := by
  rw [List.getD_eq_getElem?_getD, List.getElem?_set_self h]; rfl
theorem own_g_ne {ls : List Value} {i j : Nat} {v e : Value} (h : i ≠ j) : (ls.set i v).getD j e = ls.getD j e := by
  rw [List.getD_eq_getElem?_getD, List.getElem?_set_ne h, List.getD_eq_getElem?_getD]
theorem own_Ls_set {ls : List Value} {W D : Nat → Int} {j : Nat} {w d : Int} {u v : UInt64} (h : own_Ls ls W D) (hj : j < 7) (hl : own_L w d u v) : own_Ls ((ls.set (2 * j) (.double u)).set (2 * j + 1) (.double v)) (own_upd W j w) (own_upd D j d) := by
  have hn := h.1
  refine ⟨by rw [List.length_set, List.length_set]; exact hn, fun i hi => ?_⟩
  by_cases q : i = j
  · subst q
    refine ⟨u, v, ?_, ?_, ?_⟩
    · rw [own_g_ne (by omega), own_g_same (by omega)]
    · rw [own_g_same (by rw [List.length_set]; omega)]
    · rw [own_upd_same, own_upd_same]; exact hl
  · obtain ⟨u', v', h1, h2, h3⟩ := h.2 i hi
    refine ⟨u', v', ?_, ?_, ?_⟩
    · rw [own_g_ne (by omega), own_g_ne (by omega)]; exact h1
    · rw [own_g_ne (by omega), own_g_ne (by omega)]; exact h2
    · rw [own_upd_ne q, own_upd_ne q]; exact h3
def own_Ps (hp : List Value) (P : Nat → Int) (k : Nat) : Prop := hp.length = 4 ∧ ∀ i, i < k → ∃ u, hp.getD i (.double (0 : UInt64)) = .double u ∧ own_P (P i) u
theorem own_di {i j : Int} {u : UInt64} (h : FP.Core.DInt i u) (e : i = j) : FP.Core.DInt j u := e ▸ h
theorem own_cl : ∀ k, k < 16 → (Int32.ofNat k).toNatClampNeg = k := by decide
theorem own_ix14 : ∀ k, k < 14 → ¬ Int32.ofNat k < 0 ∧ Int32.ofNat k < (14 : Int32) := by decide
theorem own_ix4 : ∀ k, k < 4 → ¬ Int32.ofNat k < 0 ∧ Int32.ofNat k < (4 : Int32) := by decide
theorem own_eqn : ∀ i, i < 4 → ∀ j, j < 4 → Int32.ofNat i = Int32.ofNat j → i = j := by decide
theorem own_mid : ∀ i, i < 4 → ∀ j, j < 4 → ((Int32.ofNat i + Int32.ofNat j).toUInt32 >>> ((1 : Int32) &&& 31).toUInt32).toInt32 = Int32.ofNat ((i + j) / 2) := by decide
theorem own_n2 : ∀ k, k < 7 → (2 : Int32) * Int32.ofNat k = Int32.ofNat (2 * k) := by decide
theorem own_n1 : ∀ k, k < 16 → Int32.ofNat k + (1 : Int32) = Int32.ofNat (k + 1) := by decide
theorem own_nr : ∀ k, k < 7 → ∀ i, i < 4 → ∀ j, j ≤ i → Int32.ofNat k + ((2 : Int32) * ((Int32.ofNat i - Int32.ofNat j) + (1 : Int32))) = Int32.ofNat (k + 2 * (i - j + 1)) := by decide
def own_Sl (s12 s13 s14 s15 s16 s17 : Slot) : Prop := (s12 = .unset ∧ s13 = .unset ∧ s14 = .unset ∧ s15 = .unset ∧ s16 = .unset ∧ s17 = .unset) ∨ ∃ (a b : Int32) (u v : UInt64), s12 = .val (.int a) ∧ s13 = .val (.double u) ∧ s14 = .second ∧ s15 = .val (.double v) ∧ s16 = .second ∧ s17 = .val (.int b)
def own_QI (Z : State) (pl : Addr) (k2 : ClassId) (h0 : Heap) (n0 f nd lo hi : Nat) (P W D : Nat → Int) (w d : Int) (v9 : Option Value) (h9 : Heap) (L9 : List Loc) : Prop := v9 = none ∧ Fr n0 L9 ∧ Keep h0 h9 [pl] ∧ ∃ (ls' : List Value) (W' D' : Nat → Int), Arv Z h9 pl k2 .double (14 : Int32) ls' (.double (0 : UInt64)) ∧ own_Ls ls' W' D' ∧ own_Ins f nd lo hi P W D w d W' D'
end Env
theorem f1_0 : Dec prog_12_method_1_code 0 (.aload_n 0) 1 1 := ⟨by decide +kernel, rfl⟩
theorem f1_1 : Dec prog_12_method_1_code 1 (.invokespecial 1) 3 4 := ⟨by decide +kernel, rfl⟩
theorem f1_4 : Dec prog_12_method_1_code 4 (.aload_n 0) 1 5 := ⟨by decide +kernel, rfl⟩
theorem f1_5 : Dec prog_12_method_1_code 5 (.iload_n 1) 1 6 := ⟨by decide +kernel, rfl⟩
theorem f1_6 : Dec prog_12_method_1_code 6 (.newarray .double) 2 8 := ⟨by decide +kernel, rfl⟩
theorem f1_8 : Dec prog_12_method_1_code 8 (.putfield 7) 3 11 := ⟨by decide +kernel, rfl⟩
theorem f1_11 : Dec prog_12_method_1_code 11 (.aload_n 0) 1 12 := ⟨by decide +kernel, rfl⟩
theorem f1_12 : Dec prog_12_method_1_code 12 (.iconst 2) 1 13 := ⟨by decide +kernel, rfl⟩
theorem f1_13 : Dec prog_12_method_1_code 13 (.iconst 2) 1 14 := ⟨by decide +kernel, rfl⟩
theorem f1_14 : Dec prog_12_method_1_code 14 (.iload_n 1) 1 15 := ⟨by decide +kernel, rfl⟩
theorem f1_15 : Dec prog_12_method_1_code 15 (.imul) 1 16 := ⟨by decide +kernel, rfl⟩
theorem f1_16 : Dec prog_12_method_1_code 16 (.iconst 1) 1 17 := ⟨by decide +kernel, rfl⟩
theorem f1_17 : Dec prog_12_method_1_code 17 (.isub) 1 18 := ⟨by decide +kernel, rfl⟩
theorem f1_18 : Dec prog_12_method_1_code 18 (.imul) 1 19 := ⟨by decide +kernel, rfl⟩
theorem f1_19 : Dec prog_12_method_1_code 19 (.newarray .double) 2 21 := ⟨by decide +kernel, rfl⟩
theorem f1_21 : Dec prog_12_method_1_code 21 (.putfield 13) 3 24 := ⟨by decide +kernel, rfl⟩
theorem f1_24 : Dec prog_12_method_1_code 24 (.return_) 1 25 := ⟨by decide +kernel, rfl⟩
theorem pn_1 : plainFor (⟨"com/example/arbor_center/arborcenter/objective/UpperEnvelope", "<init>", "(I)V"⟩ : MethodName) = true := plainFor_of_name (show plainName "com/example/arbor_center/arborcenter/objective/UpperEnvelope" = true by first | (simp [plainName, overriddenIn]; done) | decide +kernel)
theorem ef_1 (m : MethodId) (a : Addr) (cap : Int32) : entryFrame m #[(.ref a), (.int cap)] 2 = mkF m 0 #[.val (.ref a), .val (.int cap)] [] := by first | (simp [entryFrame, mkF, argsToLocals, Value.category]; done) | rfl
def Q1 (Z : State) (a : Addr) (cap : Int32) (h0 : Heap) (n0 : Nat) (v9 : Option Value) (h9 : Heap) (L9 : List Loc) : Prop := ∃ (ph : Addr), ∃ (pl : Addr), ∃ (k1 : ClassId), ∃ (k2 : ClassId), v9 = none ∧ Fr n0 L9 ∧ Keep h0 h9 [a] ∧ Exa Z h9 a "com/example/arbor_center/arborcenter/objective/UpperEnvelope" ∧ h0.size ≤ ph ∧ h0.size ≤ pl ∧ ph ≠ pl ∧ Fld Z h9 a "com/example/arbor_center/arborcenter/objective/UpperEnvelope" "halfPoints" "[D" (.ref ph) ∧ Fld Z h9 a "com/example/arbor_center/arborcenter/objective/UpperEnvelope" "count" "I" (.int (0 : Int32)) ∧ Fld Z h9 a "com/example/arbor_center/arborcenter/objective/UpperEnvelope" "lines" "[D" (.ref pl) ∧ Arv Z h9 ph k1 .double (4 : Int32) [(.double (0 : UInt64)), (.double (0 : UInt64)), (.double (0 : UInt64)), (.double (0 : UInt64))] (.double (0 : UInt64)) ∧ Arv Z h9 pl k2 .double (14 : Int32) [(.double (0 : UInt64)), (.double (0 : UInt64)), (.double (0 : UInt64)), (.double (0 : UInt64)), (.double (0 : UInt64)), (.double (0 : UInt64)), (.double (0 : UInt64)), (.double (0 : UInt64)), (.double (0 : UInt64)), (.double (0 : UInt64)), (.double (0 : UInt64)), (.double (0 : UInt64)), (.double (0 : UInt64)), (.double (0 : UInt64))] (.double (0 : UInt64))
set_option maxRecDepth 65536 in
set_option maxHeartbeats 40000000 in
theorem rm1 (l : Launch) (Z : State) (a0 : Array Value) (hw : ∀ d ∈ tables_1, d.before a0 Z = true) (ws : List Jvm.Cond) (a : Addr) (cap : Int32) (h0 : Heap) (n0 : Nat) (Z0 : n0 ≤ h0.size) (Exa_0 : Exa Z h0 a "com/example/arbor_center/arborcenter/objective/UpperEnvelope") (Fld_1 : Fld Z h0 a "com/example/arbor_center/arborcenter/objective/UpperEnvelope" "halfPoints" "[D" .null) (Fld_2 : Fld Z h0 a "com/example/arbor_center/arborcenter/objective/UpperEnvelope" "count" "I" (.int (0 : Int32))) (Fld_3 : Fld Z h0 a "com/example/arbor_center/arborcenter/objective/UpperEnvelope" "lines" "[D" .null) (ge_4 : n0 ≤ a) (hcap : (cap = (4 : Int32))) :
    MetFree l (⟨"com/example/arbor_center/arborcenter/objective/UpperEnvelope", "<init>", "(I)V"⟩ : MethodName) (head1 (Jvm.Cond.code (⟨"com/example/arbor_center/arborcenter/objective/UpperEnvelope", "<init>", "(I)V"⟩ : MethodName) prog_12_method_1_code 2 none :: ws) ({ frames := 1, cells := 2, slots := 18, locals := 12 } : Room)) (fun A9 U9 => A9 = #[(.ref a), (.int cap)] ∧ Z.Warmed39 U9.vm ∧ U9.heap = h0) (fun _ _ _ _ _ => True) (fun _ U9 o9 V9 => ∃ v9 L9, o9 = .returned v9 ∧ (Q1 Z a cap h0 n0) v9 V9.heap L9 ∧ FrameEnd U9 o9 V9 L9 ({ frames := 1, cells := 2, slots := 18, locals := 12 } : Room).cells ({ frames := 1, cells := 2, slots := 18, locals := 12 } : Room).slots) := by
  refine met_of (Q := (Q1 Z a cap h0 n0)) pn_1 ?_
  intro p e s m below meth c T0 C X0 e0
  have N0 := Fr.nil n0
  refine Go.cast (ef_1 m a cap) ?_
  subst hcap
  refine waloadN C X0 f1_0 rfl rfl ?_
  refine winitO C X0 (tw_7 hw) (tw_8 hw) (tw_9 hw) e0 f1_1 rfl (by decide) (W := 0) (Nat.le_of_eq rfl) (by decide) ?_
  intro T1 X1 e1
  refine waloadN C X1 f1_4 rfl rfl ?_
  refine wiloadN C X1 f1_5 rfl ?_
  refine wnewarr C X1 (aty := .double) (tw_0 hw) e1 f1_6 (by decide) (cap := 4) (by decide) (by decide) (by decide) (by decide) ?_
  intro T2 h2 b2 k2 g2 X2 e2 E2 V2
  have sz2 : h0.size ≤ b2 := Nat.le_trans (Nat.le_refl h0.size) (Nat.le_of_eq g2.symm)
  have Vp2 : Arv Z h2 b2 k2 .double (4 : Int32) [(.double (0 : UInt64)), (.double (0 : UInt64)), (.double (0 : UInt64)), (.double (0 : UInt64))] (.double (0 : UInt64)) := Arv.pad V2 (pad_rep [] (.double (0 : UInt64)) 4)
  refine wput C X2 (host := "") (Or.inl (tw_10 hw)) Via.refl e2 (Fld_1.ext E2) (Exa_0.ext E2) (Or.inr ⟨(tw_11 hw), rfl, rfl⟩) (tw_2 hw) (ty := (.array .double)) (by decide) rfl rfl f1_8 ?_
  intro T3 h3 X3 e3 W3
  have Fw3 := (Fld_1.ext E2).same W3
  have N3 := Fr.snoc X3 N0 ge_4
  refine waloadN C X3 f1_11 rfl rfl ?_
  refine wiconst C X3 f1_12 (2 : Int32) rfl ?_
  refine wiconst C X3 f1_13 (2 : Int32) rfl ?_
  refine wiloadN C X3 f1_14 rfl ?_
  refine wimul C X3 f1_15 ?_
  refine own_foldI (z := (8 : Int32)) (by decide) ?_
  refine wiconst C X3 f1_16 (1 : Int32) rfl ?_
  refine wisub C X3 f1_17 ?_
  refine own_foldI (z := (7 : Int32)) (by decide) ?_
  refine wimul C X3 f1_18 ?_
  refine own_foldI (z := (14 : Int32)) (by decide) ?_
  have q5 := (Nat.le_trans (Nat.le_trans (Nat.le_refl h0.size) E2.1) (Nat.le_of_eq W3.size.symm))
  refine wnewarr C X3 (aty := .double) (tw_0 hw) e3 f1_19 (by decide) (cap := 14) (by decide) (by decide) (by decide) (by decide) ?_
  intro T4 h4 b4 k4 g4 X4 e4 E4 V4
  have sz4 : h0.size ≤ b4 := Nat.le_trans q5 (Nat.le_of_eq g4.symm)
  have Vp4 : Arv Z h4 b4 k4 .double (14 : Int32) [(.double (0 : UInt64)), (.double (0 : UInt64)), (.double (0 : UInt64)), (.double (0 : UInt64)), (.double (0 : UInt64)), (.double (0 : UInt64)), (.double (0 : UInt64)), (.double (0 : UInt64)), (.double (0 : UInt64)), (.double (0 : UInt64)), (.double (0 : UInt64)), (.double (0 : UInt64)), (.double (0 : UInt64)), (.double (0 : UInt64))] (.double (0 : UInt64)) := Arv.pad V4 (pad_rep [] (.double (0 : UInt64)) 14)
  have q6 := (((Fld_3.ext E2).other W3 (Or.inr (slot_ne (Or.inr (tw_13 hw)) (Or.inr (tw_11 hw)) (by decide) (t := (.array .double)) (t' := (.array .double)) (by decide) (by decide)))).ext E4)
  refine wput C X4 (host := "") (Or.inl (tw_12 hw)) Via.refl e4 q6 (((Exa_0.ext E2).wr W3).ext E4) (Or.inr ⟨(tw_13 hw), rfl, rfl⟩) (tw_2 hw) (ty := (.array .double)) (by decide) rfl rfl f1_21 ?_
  intro T7 h7 X7 e7 W7
  have Fw7 := q6.same W7
  have N7 := Fr.snoc X7 N3 ge_4
  refine wret C X7 f1_24 rfl (by decide) (by decide) ?_
  rw [e7]
  have q8 := (((((Keep.refl h0 [a]).ext E2).wr W3 (Or.inl (List.mem_of_getElem? (i := 0) rfl))).ext E4).wr W7 (Or.inl (List.mem_of_getElem? (i := 0) rfl)))
  have ne9 : b2 ≠ b4 := (Nat.ne_of_lt (Nat.lt_of_lt_of_le (Nat.lt_of_lt_of_eq Vp2.lt W3.size.symm) (Nat.le_of_eq g4.symm)))
  have q10 := ((Fw3.ext E4).other W7 (Or.inr (slot_ne (Or.inr (tw_11 hw)) (Or.inr (tw_13 hw)) (by decide) (t := (.array .double)) (t' := (.array .double)) (by decide) (by decide))))
  have q11 := ((((Fld_2.ext E2).other W3 (Or.inr (slot_ne (Or.inl (tw_20 hw)) (Or.inr (tw_11 hw)) (by decide) (t := .int) (t' := (.array .double)) (by decide) (by decide)))).ext E4).other W7 (Or.inr (slot_ne (Or.inl (tw_20 hw)) (Or.inr (tw_13 hw)) (by decide) (t := .int) (t' := (.array .double)) (by decide) (by decide))))
  have ne12 : a ≠ b2 := (Nat.ne_of_lt (Nat.lt_of_lt_of_le Exa_0.lt (Nat.le_of_eq g2.symm)))
  have q13 := (((Vp2.other W3 (Ne.symm ne12)).ext E4).other W7 (Ne.symm ne12))
  have ne14 : a ≠ b4 := (Nat.ne_of_lt (Nat.lt_of_lt_of_le (Nat.lt_of_lt_of_eq (Nat.lt_of_lt_of_le Exa_0.lt E2.1) W3.size.symm) (Nat.le_of_eq g4.symm)))
  exact ⟨b2, b4, k2, k4, rfl, N7, q8, ((((Exa_0.ext E2).wr W3).ext E4).wr W7), sz2, sz4, ne9, q10, q11, Fw7, q13, (Vp4.other W7 (Ne.symm ne14))⟩
theorem f6_24 : Dec prog_12_method_3_code 24 (.iload 10) 2 26 := ⟨by decide +kernel, rfl⟩
theorem f6_26 : Dec prog_12_method_3_code 26 (.iload 11) 2 28 := ⟨by decide +kernel, rfl⟩
theorem f6_28 : Dec prog_12_method_3_code 28 (.iadd) 1 29 := ⟨by decide +kernel, rfl⟩
theorem f6_29 : Dec prog_12_method_3_code 29 (.iconst 1) 1 30 := ⟨by decide +kernel, rfl⟩
theorem f6_30 : Dec prog_12_method_3_code 30 (.iushr) 1 31 := ⟨by decide +kernel, rfl⟩
theorem f6_31 : Dec prog_12_method_3_code 31 (.istore 12) 2 33 := ⟨by decide +kernel, rfl⟩
theorem f6_33 : Dec prog_12_method_3_code 33 (.aload_n 0) 1 34 := ⟨by decide +kernel, rfl⟩
theorem f6_34 : Dec prog_12_method_3_code 34 (.getfield 13) 3 37 := ⟨by decide +kernel, rfl⟩
theorem f6_37 : Dec prog_12_method_3_code 37 (.iconst 2) 1 38 := ⟨by decide +kernel, rfl⟩
theorem f6_38 : Dec prog_12_method_3_code 38 (.iload 9) 2 40 := ⟨by decide +kernel, rfl⟩
theorem f6_40 : Dec prog_12_method_3_code 40 (.imul) 1 41 := ⟨by decide +kernel, rfl⟩
theorem f6_41 : Dec prog_12_method_3_code 41 (.daload) 1 42 := ⟨by decide +kernel, rfl⟩
theorem f6_42 : Dec prog_12_method_3_code 42 (.dstore 13) 2 44 := ⟨by decide +kernel, rfl⟩
theorem f6_44 : Dec prog_12_method_3_code 44 (.aload_n 0) 1 45 := ⟨by decide +kernel, rfl⟩
theorem f6_45 : Dec prog_12_method_3_code 45 (.getfield 13) 3 48 := ⟨by decide +kernel, rfl⟩
theorem f6_48 : Dec prog_12_method_3_code 48 (.iconst 2) 1 49 := ⟨by decide +kernel, rfl⟩
theorem f6_49 : Dec prog_12_method_3_code 49 (.iload 9) 2 51 := ⟨by decide +kernel, rfl⟩
theorem f6_51 : Dec prog_12_method_3_code 51 (.imul) 1 52 := ⟨by decide +kernel, rfl⟩
theorem f6_52 : Dec prog_12_method_3_code 52 (.iconst 1) 1 53 := ⟨by decide +kernel, rfl⟩
theorem f6_53 : Dec prog_12_method_3_code 53 (.iadd) 1 54 := ⟨by decide +kernel, rfl⟩
theorem f6_54 : Dec prog_12_method_3_code 54 (.daload) 1 55 := ⟨by decide +kernel, rfl⟩
theorem f6_55 : Dec prog_12_method_3_code 55 (.dstore 15) 2 57 := ⟨by decide +kernel, rfl⟩
theorem f6_57 : Dec prog_12_method_3_code 57 (.dload 5) 2 59 := ⟨by decide +kernel, rfl⟩
theorem f6_59 : Dec prog_12_method_3_code 59 (.aload_n 0) 1 60 := ⟨by decide +kernel, rfl⟩
theorem f6_60 : Dec prog_12_method_3_code 60 (.getfield 7) 3 63 := ⟨by decide +kernel, rfl⟩
theorem f6_63 : Dec prog_12_method_3_code 63 (.iload 12) 2 65 := ⟨by decide +kernel, rfl⟩
theorem f6_65 : Dec prog_12_method_3_code 65 (.daload) 1 66 := ⟨by decide +kernel, rfl⟩
theorem f6_66 : Dec prog_12_method_3_code 66 (.dload 7) 2 68 := ⟨by decide +kernel, rfl⟩
theorem f6_68 : Dec prog_12_method_3_code 68 (.dadd) 1 69 := ⟨by decide +kernel, rfl⟩
theorem f6_69 : Dec prog_12_method_3_code 69 (.dmul) 1 70 := ⟨by decide +kernel, rfl⟩
theorem f6_70 : Dec prog_12_method_3_code 70 (.dload 13) 2 72 := ⟨by decide +kernel, rfl⟩
theorem f6_72 : Dec prog_12_method_3_code 72 (.aload_n 0) 1 73 := ⟨by decide +kernel, rfl⟩
theorem f6_73 : Dec prog_12_method_3_code 73 (.getfield 7) 3 76 := ⟨by decide +kernel, rfl⟩
theorem f6_76 : Dec prog_12_method_3_code 76 (.iload 12) 2 78 := ⟨by decide +kernel, rfl⟩
theorem f6_78 : Dec prog_12_method_3_code 78 (.daload) 1 79 := ⟨by decide +kernel, rfl⟩
theorem f6_79 : Dec prog_12_method_3_code 79 (.dload 15) 2 81 := ⟨by decide +kernel, rfl⟩
theorem f6_81 : Dec prog_12_method_3_code 81 (.dadd) 1 82 := ⟨by decide +kernel, rfl⟩
theorem f6_82 : Dec prog_12_method_3_code 82 (.dmul) 1 83 := ⟨by decide +kernel, rfl⟩
theorem f6_83 : Dec prog_12_method_3_code 83 (.dcmp .l) 1 84 := ⟨by decide +kernel, rfl⟩
theorem f6_84 : DecJ prog_12_method_3_code 84 (.ifCond .le 59) 59 143 87 := ⟨by decide +kernel, by decide, by decide, rfl⟩
theorem f6_87 : Dec prog_12_method_3_code 87 (.aload_n 0) 1 88 := ⟨by decide +kernel, rfl⟩
theorem f6_88 : Dec prog_12_method_3_code 88 (.getfield 13) 3 91 := ⟨by decide +kernel, rfl⟩
theorem f6_91 : Dec prog_12_method_3_code 91 (.iconst 2) 1 92 := ⟨by decide +kernel, rfl⟩
theorem f6_92 : Dec prog_12_method_3_code 92 (.iload 9) 2 94 := ⟨by decide +kernel, rfl⟩
theorem f6_94 : Dec prog_12_method_3_code 94 (.imul) 1 95 := ⟨by decide +kernel, rfl⟩
theorem f6_95 : Dec prog_12_method_3_code 95 (.dload 5) 2 97 := ⟨by decide +kernel, rfl⟩
theorem f6_97 : Dec prog_12_method_3_code 97 (.dastore) 1 98 := ⟨by decide +kernel, rfl⟩
theorem f6_98 : Dec prog_12_method_3_code 98 (.aload_n 0) 1 99 := ⟨by decide +kernel, rfl⟩
theorem f6_99 : Dec prog_12_method_3_code 99 (.getfield 13) 3 102 := ⟨by decide +kernel, rfl⟩
theorem f6_102 : Dec prog_12_method_3_code 102 (.iconst 2) 1 103 := ⟨by decide +kernel, rfl⟩
theorem f6_103 : Dec prog_12_method_3_code 103 (.iload 9) 2 105 := ⟨by decide +kernel, rfl⟩
theorem f6_105 : Dec prog_12_method_3_code 105 (.imul) 1 106 := ⟨by decide +kernel, rfl⟩
theorem f6_106 : Dec prog_12_method_3_code 106 (.iconst 1) 1 107 := ⟨by decide +kernel, rfl⟩
theorem f6_107 : Dec prog_12_method_3_code 107 (.iadd) 1 108 := ⟨by decide +kernel, rfl⟩
theorem f6_108 : Dec prog_12_method_3_code 108 (.dload 7) 2 110 := ⟨by decide +kernel, rfl⟩
theorem f6_110 : Dec prog_12_method_3_code 110 (.dastore) 1 111 := ⟨by decide +kernel, rfl⟩
theorem f6_111 : Dec prog_12_method_3_code 111 (.dload 13) 2 113 := ⟨by decide +kernel, rfl⟩
theorem f6_113 : Dec prog_12_method_3_code 113 (.dstore 5) 2 115 := ⟨by decide +kernel, rfl⟩
theorem f6_115 : Dec prog_12_method_3_code 115 (.dload 15) 2 117 := ⟨by decide +kernel, rfl⟩
theorem f6_117 : Dec prog_12_method_3_code 117 (.dstore 7) 2 119 := ⟨by decide +kernel, rfl⟩
theorem f6_119 : Dec prog_12_method_3_code 119 (.aload_n 0) 1 120 := ⟨by decide +kernel, rfl⟩
theorem f6_120 : Dec prog_12_method_3_code 120 (.getfield 13) 3 123 := ⟨by decide +kernel, rfl⟩
theorem f6_123 : Dec prog_12_method_3_code 123 (.iconst 2) 1 124 := ⟨by decide +kernel, rfl⟩
theorem f6_124 : Dec prog_12_method_3_code 124 (.iload 9) 2 126 := ⟨by decide +kernel, rfl⟩
theorem f6_126 : Dec prog_12_method_3_code 126 (.imul) 1 127 := ⟨by decide +kernel, rfl⟩
theorem f6_127 : Dec prog_12_method_3_code 127 (.daload) 1 128 := ⟨by decide +kernel, rfl⟩
theorem f6_128 : Dec prog_12_method_3_code 128 (.dstore 13) 2 130 := ⟨by decide +kernel, rfl⟩
theorem f6_130 : Dec prog_12_method_3_code 130 (.aload_n 0) 1 131 := ⟨by decide +kernel, rfl⟩
theorem f6_131 : Dec prog_12_method_3_code 131 (.getfield 13) 3 134 := ⟨by decide +kernel, rfl⟩
theorem f6_134 : Dec prog_12_method_3_code 134 (.iconst 2) 1 135 := ⟨by decide +kernel, rfl⟩
theorem f6_135 : Dec prog_12_method_3_code 135 (.iload 9) 2 137 := ⟨by decide +kernel, rfl⟩
theorem f6_137 : Dec prog_12_method_3_code 137 (.imul) 1 138 := ⟨by decide +kernel, rfl⟩
theorem f6_138 : Dec prog_12_method_3_code 138 (.iconst 1) 1 139 := ⟨by decide +kernel, rfl⟩
theorem f6_139 : Dec prog_12_method_3_code 139 (.iadd) 1 140 := ⟨by decide +kernel, rfl⟩
theorem f6_140 : Dec prog_12_method_3_code 140 (.daload) 1 141 := ⟨by decide +kernel, rfl⟩
theorem f6_141 : Dec prog_12_method_3_code 141 (.dstore 15) 2 143 := ⟨by decide +kernel, rfl⟩
theorem f6_143 : Dec prog_12_method_3_code 143 (.iload 10) 2 145 := ⟨by decide +kernel, rfl⟩
theorem f6_145 : Dec prog_12_method_3_code 145 (.iload 11) 2 147 := ⟨by decide +kernel, rfl⟩
theorem f6_147 : DecJ prog_12_method_3_code 147 (.if_icmp .ne 4) 4 151 150 := ⟨by decide +kernel, by decide, by decide, rfl⟩
theorem f6_150 : Dec prog_12_method_3_code 150 (.return_) 1 151 := ⟨by decide +kernel, rfl⟩
theorem f6_151 : Dec prog_12_method_3_code 151 (.dload 5) 2 153 := ⟨by decide +kernel, rfl⟩
theorem f6_153 : Dec prog_12_method_3_code 153 (.dload 13) 2 155 := ⟨by decide +kernel, rfl⟩
theorem f6_155 : Dec prog_12_method_3_code 155 (.dcmp .g) 1 156 := ⟨by decide +kernel, rfl⟩
theorem f6_156 : DecJ prog_12_method_3_code 156 (.ifCond .ge 8) 8 164 159 := ⟨by decide +kernel, by decide, by decide, rfl⟩
theorem f6_159 : Dec prog_12_method_3_code 159 (.iload 10) 2 161 := ⟨by decide +kernel, rfl⟩
theorem f6_161 : DecJ prog_12_method_3_code 161 (.goto 5) 5 166 164 := ⟨by decide +kernel, by decide, by decide, rfl⟩
theorem f6_164 : Dec prog_12_method_3_code 164 (.iload 11) 2 166 := ⟨by decide +kernel, rfl⟩
theorem f6_166 : Dec prog_12_method_3_code 166 (.istore 17) 2 168 := ⟨by decide +kernel, rfl⟩
theorem f6_168 : Dec prog_12_method_3_code 168 (.dload 5) 2 170 := ⟨by decide +kernel, rfl⟩
theorem f6_170 : Dec prog_12_method_3_code 170 (.aload_n 0) 1 171 := ⟨by decide +kernel, rfl⟩
theorem f6_171 : Dec prog_12_method_3_code 171 (.getfield 7) 3 174 := ⟨by decide +kernel, rfl⟩
theorem f6_174 : Dec prog_12_method_3_code 174 (.iload 17) 2 176 := ⟨by decide +kernel, rfl⟩
theorem f6_176 : Dec prog_12_method_3_code 176 (.daload) 1 177 := ⟨by decide +kernel, rfl⟩
theorem f6_177 : Dec prog_12_method_3_code 177 (.dload 7) 2 179 := ⟨by decide +kernel, rfl⟩
theorem f6_179 : Dec prog_12_method_3_code 179 (.dadd) 1 180 := ⟨by decide +kernel, rfl⟩
theorem f6_180 : Dec prog_12_method_3_code 180 (.dmul) 1 181 := ⟨by decide +kernel, rfl⟩
theorem f6_181 : Dec prog_12_method_3_code 181 (.dload 13) 2 183 := ⟨by decide +kernel, rfl⟩
theorem f6_183 : Dec prog_12_method_3_code 183 (.aload_n 0) 1 184 := ⟨by decide +kernel, rfl⟩
theorem f6_184 : Dec prog_12_method_3_code 184 (.getfield 7) 3 187 := ⟨by decide +kernel, rfl⟩
theorem f6_187 : Dec prog_12_method_3_code 187 (.iload 17) 2 189 := ⟨by decide +kernel, rfl⟩
theorem f6_189 : Dec prog_12_method_3_code 189 (.daload) 1 190 := ⟨by decide +kernel, rfl⟩
theorem f6_190 : Dec prog_12_method_3_code 190 (.dload 15) 2 192 := ⟨by decide +kernel, rfl⟩
theorem f6_192 : Dec prog_12_method_3_code 192 (.dadd) 1 193 := ⟨by decide +kernel, rfl⟩
theorem f6_193 : Dec prog_12_method_3_code 193 (.dmul) 1 194 := ⟨by decide +kernel, rfl⟩
theorem f6_194 : Dec prog_12_method_3_code 194 (.dcmp .l) 1 195 := ⟨by decide +kernel, rfl⟩
theorem f6_195 : DecJ prog_12_method_3_code 195 (.ifCond .gt 4) 4 199 198 := ⟨by decide +kernel, by decide, by decide, rfl⟩
theorem f6_198 : Dec prog_12_method_3_code 198 (.return_) 1 199 := ⟨by decide +kernel, rfl⟩
theorem f6_199 : Dec prog_12_method_3_code 199 (.dload 5) 2 201 := ⟨by decide +kernel, rfl⟩
theorem f6_201 : Dec prog_12_method_3_code 201 (.dload 13) 2 203 := ⟨by decide +kernel, rfl⟩
theorem f6_203 : Dec prog_12_method_3_code 203 (.dcmp .g) 1 204 := ⟨by decide +kernel, rfl⟩
theorem f6_204 : DecJ prog_12_method_3_code 204 (.ifCond .ge 16) 16 220 207 := ⟨by decide +kernel, by decide, by decide, rfl⟩
theorem f6_207 : Dec prog_12_method_3_code 207 (.iload 9) 2 209 := ⟨by decide +kernel, rfl⟩
theorem f6_209 : Dec prog_12_method_3_code 209 (.iconst 1) 1 210 := ⟨by decide +kernel, rfl⟩
theorem f6_210 : Dec prog_12_method_3_code 210 (.iadd) 1 211 := ⟨by decide +kernel, rfl⟩
theorem f6_211 : Dec prog_12_method_3_code 211 (.istore 9) 2 213 := ⟨by decide +kernel, rfl⟩
theorem f6_213 : Dec prog_12_method_3_code 213 (.iload 12) 2 215 := ⟨by decide +kernel, rfl⟩
theorem f6_215 : Dec prog_12_method_3_code 215 (.istore 11) 2 217 := ⟨by decide +kernel, rfl⟩
theorem f6_217 : DecJ prog_12_method_3_code 217 (.goto 23) 23 240 220 := ⟨by decide +kernel, by decide, by decide, rfl⟩
theorem f6_220 : Dec prog_12_method_3_code 220 (.iload 9) 2 222 := ⟨by decide +kernel, rfl⟩
theorem f6_222 : Dec prog_12_method_3_code 222 (.iconst 2) 1 223 := ⟨by decide +kernel, rfl⟩
theorem f6_223 : Dec prog_12_method_3_code 223 (.iload 12) 2 225 := ⟨by decide +kernel, rfl⟩
theorem f6_225 : Dec prog_12_method_3_code 225 (.iload 10) 2 227 := ⟨by decide +kernel, rfl⟩
theorem f6_227 : Dec prog_12_method_3_code 227 (.isub) 1 228 := ⟨by decide +kernel, rfl⟩
theorem f6_228 : Dec prog_12_method_3_code 228 (.iconst 1) 1 229 := ⟨by decide +kernel, rfl⟩
theorem f6_229 : Dec prog_12_method_3_code 229 (.iadd) 1 230 := ⟨by decide +kernel, rfl⟩
theorem f6_230 : Dec prog_12_method_3_code 230 (.imul) 1 231 := ⟨by decide +kernel, rfl⟩
theorem f6_231 : Dec prog_12_method_3_code 231 (.iadd) 1 232 := ⟨by decide +kernel, rfl⟩
theorem f6_232 : Dec prog_12_method_3_code 232 (.istore 9) 2 234 := ⟨by decide +kernel, rfl⟩
theorem f6_234 : Dec prog_12_method_3_code 234 (.iload 12) 2 236 := ⟨by decide +kernel, rfl⟩
theorem f6_236 : Dec prog_12_method_3_code 236 (.iconst 1) 1 237 := ⟨by decide +kernel, rfl⟩
theorem f6_237 : Dec prog_12_method_3_code 237 (.iadd) 1 238 := ⟨by decide +kernel, rfl⟩
theorem f6_238 : Dec prog_12_method_3_code 238 (.istore 10) 2 240 := ⟨by decide +kernel, rfl⟩
theorem f6_240 : DecJ prog_12_method_3_code 240 (.goto (-216)) (-216) 24 243 := ⟨by decide +kernel, by decide, by decide, rfl⟩
set_option maxRecDepth 65536 in
set_option maxHeartbeats 40000000 in
theorem own_loop {p : Program} {l : Launch} {e : Env} {R : Room} {s : State} {m : MethodId} {args : Array Value} {below : List Frame} {meth : Method} {c : Code} {Z : State} {a0 : Array Value} (C : Cur p l e s m meth c Z prog_12_method_3_code 18 "com/example/arbor_center/arborcenter/objective/UpperEnvelope" "add" none) (hw : ∀ d ∈ tables_1, d.before a0 Z = true) {a ph pl : Addr} {k1 k2 : ClassId} {hp : List Value} {P : Nat → Int} {k : Nat} {h0 : Heap} {n0 : Nat} (gpl : n0 ≤ pl) (na : a ≠ pl) (np : ph ≠ pl) (hP : own_Ps hp P k) (hmono : ∀ i j, i ≤ j → j < k → P i ≤ P j) (hk4 : k ≤ 4) {kC kS : Nat} :
    ∀ (f : Nat) {T0 : State} {locs : List Loc} {cells slots : Nat} {h : Heap} {ls : List Value} {W D : Nat → Int} {nd lo hi : Nat} {w d : Int} {u v wB dB : UInt64} {s12 s13 s14 s15 s16 s17 : Slot}, Stand p l e R s m args below meth c T0 locs cells slots → cells ≤ kC → slots ≤ kS → T0.heap = h → Fr n0 locs → Keep h0 h [pl] → Fld Z h a "com/example/arbor_center/arborcenter/objective/UpperEnvelope" "halfPoints" "[D" (.ref ph) → Fld Z h a "com/example/arbor_center/arborcenter/objective/UpperEnvelope" "lines" "[D" (.ref pl) → Arv Z h ph k1 .double (4 : Int32) hp (.double (0 : UInt64)) → Arv Z h pl k2 .double (14 : Int32) ls (.double (0 : UInt64)) → own_Ls ls W D → own_L w d u v → own_Sl s12 s13 s14 s15 s16 s17 → lo ≤ hi → hi < k → nd + (2 * (hi - lo + 1) - 1) ≤ 7 → hi - lo ≤ f →
      Go p e below s (own_QI Z pl k2 h0 n0 f nd lo hi P W D w d) kC kS T0 (mkF m 24 #[.val (.ref a), .val (.double wB), .second, .val (.double dB), .second, .val (.double u), .second, .val (.double v), .second, .val (.int (Int32.ofNat nd)), .val (.int (Int32.ofNat lo)), .val (.int (Int32.ofNat hi)), s12, s13, s14, s15, s16, s17] []) := by
  intro f
  induction f using Nat.strongRecOn with
  | _ f IH =>
    intro T0 locs cells slots h ls W D nd lo hi w d u v wB dB s12 s13 s14 s15 s16 s17 X0 hkC hkS e0 N0 K0 F1 F3 V1 V2 hL hl hs b1 b2 b3 b4
    obtain ⟨ku, ko, g1, g2, hkl⟩ := hL.2 nd (by omega)
    obtain ⟨pm, gm, hpm⟩ := hP.2 ((lo + hi) / 2) (by omega)
    obtain ⟨p1, gl, hpl⟩ := hP.2 lo (by omega)
    obtain ⟨p2, gh, hph⟩ := hP.2 hi (by omega)
    refine wiload C X0 f6_24 rfl ?_
    refine wiload C X0 f6_26 rfl ?_
    refine wiadd C X0 f6_28 ?_
    refine wiconst C X0 f6_29 (1 : Int32) rfl ?_
    refine wiushr C X0 f6_30 ?_
    refine own_foldI (z := (Int32.ofNat ((lo + hi) / 2))) (own_mid _ (by omega) _ (by omega)) ?_
    refine wistore C X0 f6_31 #[.val (.ref a), .val (.double wB), .second, .val (.double dB), .second, .val (.double u), .second, .val (.double v), .second, .val (.int (Int32.ofNat nd)), .val (.int (Int32.ofNat lo)), .val (.int (Int32.ofNat hi)), .val (.int (Int32.ofNat ((lo + hi) / 2))), s13, s14, s15, s16, s17] (by rcases hs with ⟨rfl, rfl, rfl, rfl, rfl, rfl⟩ | ⟨_, _, _, _, rfl, rfl, rfl, rfl, rfl, rfl⟩ <;> rfl) ?_
    refine waloadN C X0 f6_33 rfl rfl ?_
    refine wget C X0 (host := "") (Or.inl (tw_12 hw)) Via.refl e0 F3 f6_34 ?_
    intro T1 X1 e1
    refine wiconst C X1 f6_37 (2 : Int32) rfl ?_
    refine wiload C X1 f6_38 rfl ?_
    refine wimul C X1 f6_40 ?_
    refine own_foldI (z := (Int32.ofNat (2 * nd))) (own_n2 _ (by omega)) ?_
    refine wdaload C X1 e1 V2 f6_41 (own_ix14 _ (by omega)) (i := (2 * nd)) (own_cl _ (by omega)) (v := ku) g1 ?_
    refine wdstore C X1 f6_42 #[.val (.ref a), .val (.double wB), .second, .val (.double dB), .second, .val (.double u), .second, .val (.double v), .second, .val (.int (Int32.ofNat nd)), .val (.int (Int32.ofNat lo)), .val (.int (Int32.ofNat hi)), .val (.int (Int32.ofNat ((lo + hi) / 2))), .val (.double ku), .second, s15, s16, s17] (by rcases hs with ⟨rfl, rfl, rfl, rfl, rfl, rfl⟩ | ⟨_, _, _, _, rfl, rfl, rfl, rfl, rfl, rfl⟩ <;> rfl) ?_
    refine waloadN C X1 f6_44 rfl rfl ?_
    refine wget C X1 (host := "") (Or.inl (tw_12 hw)) Via.refl e1 F3 f6_45 ?_
    intro T2 X2 e2
    refine wiconst C X2 f6_48 (2 : Int32) rfl ?_
    refine wiload C X2 f6_49 rfl ?_
    refine wimul C X2 f6_51 ?_
    refine own_foldI (z := (Int32.ofNat (2 * nd))) (own_n2 _ (by omega)) ?_
    refine wiconst C X2 f6_52 (1 : Int32) rfl ?_
    refine wiadd C X2 f6_53 ?_
    refine own_foldI (z := (Int32.ofNat (2 * nd + 1))) (own_n1 _ (by omega)) ?_
    refine wdaload C X2 e2 V2 f6_54 (own_ix14 _ (by omega)) (i := (2 * nd + 1)) (own_cl _ (by omega)) (v := ko) g2 ?_
    refine wdstore C X2 f6_55 #[.val (.ref a), .val (.double wB), .second, .val (.double dB), .second, .val (.double u), .second, .val (.double v), .second, .val (.int (Int32.ofNat nd)), .val (.int (Int32.ofNat lo)), .val (.int (Int32.ofNat hi)), .val (.int (Int32.ofNat ((lo + hi) / 2))), .val (.double ku), .second, .val (.double ko), .second, s17] (by rcases hs with ⟨rfl, rfl, rfl, rfl, rfl, rfl⟩ | ⟨_, _, _, _, rfl, rfl, rfl, rfl, rfl, rfl⟩ <;> rfl) ?_
    refine wdload C X2 f6_57 rfl ?_
    refine waloadN C X2 f6_59 rfl rfl ?_
    refine wget C X2 (host := "") (Or.inl (tw_10 hw)) Via.refl e2 F1 f6_60 ?_
    intro T3 X3 e3
    refine wiload C X3 f6_63 rfl ?_
    refine wdaload C X3 e3 V1 f6_65 (own_ix4 _ (by omega)) (i := ((lo + hi) / 2)) (own_cl _ (by omega)) (v := pm) gm ?_
    refine wdload C X3 f6_66 rfl ?_
    refine wdadd C X3 f6_68 (v := (FP.dadd pm v)) rfl (own_H_nn (own_pd hpm hl)) ?_
    refine wdmul C X3 f6_69 (v := (FP.dmul u (FP.dadd pm v))) rfl (own_H_nn (own_lv hpm hl)) ?_
    refine wdload C X3 f6_70 rfl ?_
    refine waloadN C X3 f6_72 rfl rfl ?_
    refine wget C X3 (host := "") (Or.inl (tw_10 hw)) Via.refl e3 F1 f6_73 ?_
    intro T4 X4 e4
    refine wiload C X4 f6_76 rfl ?_
    refine wdaload C X4 e4 V1 f6_78 (own_ix4 _ (by omega)) (i := ((lo + hi) / 2)) (own_cl _ (by omega)) (v := pm) gm ?_
    refine wdload C X4 f6_79 rfl ?_
    refine wdadd C X4 f6_81 (v := (FP.dadd pm ko)) rfl (own_H_nn (own_pd hpm hkl)) ?_
    refine wdmul C X4 f6_82 (v := (FP.dmul ku (FP.dadd pm ko))) rfl (own_H_nn (own_lv hpm hkl)) ?_
    refine wdcmp C X4 f6_83 (v := (cmpValue (FP.dcmp (FP.dmul u (FP.dadd pm v)) (FP.dmul ku (FP.dadd pm ko))) .l)) rfl ?_
    refine wif_le C X4 f6_84 (fun hc84 => ?_) (fun hc84 => ?_)
    · refine waloadN C X4 f6_87 rfl rfl ?_
      refine wget C X4 (host := "") (Or.inl (tw_12 hw)) Via.refl e4 F3 f6_88 ?_
      intro T5 X5 e5
      refine wiconst C X5 f6_91 (2 : Int32) rfl ?_
      refine wiload C X5 f6_92 rfl ?_
      refine wimul C X5 f6_94 ?_
      refine own_foldI (z := (Int32.ofNat (2 * nd))) (own_n2 _ (by omega)) ?_
      refine wdload C X5 f6_95 rfl ?_
      refine wdastore C X5 e5 V2 f6_97 (own_ix14 _ (by omega)) (2 * nd) (own_cl _ (by omega)) (by rw [hL.1]; omega) (ls.set (2 * nd) (.double u)) rfl ?_
      intro T6 h6 sl6 w6 X6 e6 W6 V6
      have N6 := Fr.snoc X6 N0 gpl
      refine waloadN C X6 f6_98 rfl rfl ?_
      refine wget C X6 (host := "") (Or.inl (tw_12 hw)) Via.refl e6 (F3.other W6 (Or.inl na)) f6_99 ?_
      intro T7 X7 e7
      refine wiconst C X7 f6_102 (2 : Int32) rfl ?_
      refine wiload C X7 f6_103 rfl ?_
      refine wimul C X7 f6_105 ?_
      refine own_foldI (z := (Int32.ofNat (2 * nd))) (own_n2 _ (by omega)) ?_
      refine wiconst C X7 f6_106 (1 : Int32) rfl ?_
      refine wiadd C X7 f6_107 ?_
      refine own_foldI (z := (Int32.ofNat (2 * nd + 1))) (own_n1 _ (by omega)) ?_
      refine wdload C X7 f6_108 rfl ?_
      refine wdastore C X7 e7 V6 f6_110 (own_ix14 _ (by omega)) (2 * nd + 1) (own_cl _ (by omega)) (by rw [List.length_set, hL.1]; omega) ((ls.set (2 * nd) (.double u)).set (2 * nd + 1) (.double v)) rfl ?_
      intro T8 h8 sl8 w8 X8 e8 W8 V8
      have N8 := Fr.snoc X8 N6 gpl
      refine wdload C X8 f6_111 rfl ?_
      refine wdstore C X8 f6_113 #[.val (.ref a), .val (.double wB), .second, .val (.double dB), .second, .val (.double ku), .second, .val (.double v), .second, .val (.int (Int32.ofNat nd)), .val (.int (Int32.ofNat lo)), .val (.int (Int32.ofNat hi)), .val (.int (Int32.ofNat ((lo + hi) / 2))), .val (.double ku), .second, .val (.double ko), .second, s17] (by rcases hs with ⟨rfl, rfl, rfl, rfl, rfl, rfl⟩ | ⟨_, _, _, _, rfl, rfl, rfl, rfl, rfl, rfl⟩ <;> rfl) ?_
      refine wdload C X8 f6_115 rfl ?_
      refine wdstore C X8 f6_117 #[.val (.ref a), .val (.double wB), .second, .val (.double dB), .second, .val (.double ku), .second, .val (.double ko), .second, .val (.int (Int32.ofNat nd)), .val (.int (Int32.ofNat lo)), .val (.int (Int32.ofNat hi)), .val (.int (Int32.ofNat ((lo + hi) / 2))), .val (.double ku), .second, .val (.double ko), .second, s17] (by rcases hs with ⟨rfl, rfl, rfl, rfl, rfl, rfl⟩ | ⟨_, _, _, _, rfl, rfl, rfl, rfl, rfl, rfl⟩ <;> rfl) ?_
      refine waloadN C X8 f6_119 rfl rfl ?_
      refine wget C X8 (host := "") (Or.inl (tw_12 hw)) Via.refl e8 ((F3.other W6 (Or.inl na)).other W8 (Or.inl na)) f6_120 ?_
      intro T9 X9 e9
      refine wiconst C X9 f6_123 (2 : Int32) rfl ?_
      refine wiload C X9 f6_124 rfl ?_
      refine wimul C X9 f6_126 ?_
      refine own_foldI (z := (Int32.ofNat (2 * nd))) (own_n2 _ (by omega)) ?_
      refine wdaload C X9 e9 V8 f6_127 (own_ix14 _ (by omega)) (i := (2 * nd)) (own_cl _ (by omega)) (v := u) ((own_g_ne (by omega)).trans (own_g_same (by rw [hL.1]; omega))) ?_
      refine wdstore C X9 f6_128 #[.val (.ref a), .val (.double wB), .second, .val (.double dB), .second, .val (.double ku), .second, .val (.double ko), .second, .val (.int (Int32.ofNat nd)), .val (.int (Int32.ofNat lo)), .val (.int (Int32.ofNat hi)), .val (.int (Int32.ofNat ((lo + hi) / 2))), .val (.double u), .second, .val (.double ko), .second, s17] (by rcases hs with ⟨rfl, rfl, rfl, rfl, rfl, rfl⟩ | ⟨_, _, _, _, rfl, rfl, rfl, rfl, rfl, rfl⟩ <;> rfl) ?_
      refine waloadN C X9 f6_130 rfl rfl ?_
      refine wget C X9 (host := "") (Or.inl (tw_12 hw)) Via.refl e9 ((F3.other W6 (Or.inl na)).other W8 (Or.inl na)) f6_131 ?_
      intro T10 X10 e10
      refine wiconst C X10 f6_134 (2 : Int32) rfl ?_
      refine wiload C X10 f6_135 rfl ?_
      refine wimul C X10 f6_137 ?_
      refine own_foldI (z := (Int32.ofNat (2 * nd))) (own_n2 _ (by omega)) ?_
      refine wiconst C X10 f6_138 (1 : Int32) rfl ?_
      refine wiadd C X10 f6_139 ?_
      refine own_foldI (z := (Int32.ofNat (2 * nd + 1))) (own_n1 _ (by omega)) ?_
      refine wdaload C X10 e10 V8 f6_140 (own_ix14 _ (by omega)) (i := (2 * nd + 1)) (own_cl _ (by omega)) (v := v) (own_g_same (by rw [List.length_set, hL.1]; omega)) ?_
      refine wdstore C X10 f6_141 #[.val (.ref a), .val (.double wB), .second, .val (.double dB), .second, .val (.double ku), .second, .val (.double ko), .second, .val (.int (Int32.ofNat nd)), .val (.int (Int32.ofNat lo)), .val (.int (Int32.ofNat hi)), .val (.int (Int32.ofNat ((lo + hi) / 2))), .val (.double u), .second, .val (.double v), .second, s17] (by rcases hs with ⟨rfl, rfl, rfl, rfl, rfl, rfl⟩ | ⟨_, _, _, _, rfl, rfl, rfl, rfl, rfl, rfl⟩ <;> rfl) ?_
      refine wiload C X10 f6_143 rfl ?_
      refine wiload C X10 f6_145 rfl ?_
      refine wicmp_ne C X10 f6_147 (fun hc147 => ?_) (fun hc147 => ?_)
      · refine wret C X10 f6_150 rfl hkC hkS ?_
        have hm : (W nd) * (P ((lo + hi) / 2) + (D nd)) ≤ (own_upd W nd w) nd * (P ((lo + hi) / 2) + (own_upd D nd d) nd) := by
          have q := (own_H_gt (own_lv hpm hl) (own_lv hpm hkl) _).mp hc84; rw [own_upd_same, own_upd_same]; omega
        have q11 := ((K0.wr W6 (Or.inl (List.mem_of_getElem? (i := 0) rfl))).wr W8 (Or.inl (List.mem_of_getElem? (i := 0) rfl)))
        rw [e10]
        exact ⟨rfl, N8, q11, _, (own_upd W nd w), (own_upd D nd d), V8, (own_Ls_set hL (by omega) hl), (own_ins_swap b1 (own_ins_stop fun i a1 a2 => by have q := own_eqn _ (by omega) _ (by omega) hc147; have q2 : i = (lo + hi) / 2 := (by omega); subst q2; exact hm))⟩
      · refine wdload C X10 f6_151 rfl ?_
        refine wdload C X10 f6_153 rfl ?_
        refine wdcmp C X10 f6_155 (v := (cmpValue (FP.dcmp ku u) .g)) rfl ?_
        refine wif_ge C X10 f6_156 (fun hc156 => ?_) (fun hc156 => ?_)
        · refine wiload C X10 f6_159 rfl ?_
          refine wgoto C X10 f6_161 ?_
          refine wistore C X10 f6_166 #[.val (.ref a), .val (.double wB), .second, .val (.double dB), .second, .val (.double ku), .second, .val (.double ko), .second, .val (.int (Int32.ofNat nd)), .val (.int (Int32.ofNat lo)), .val (.int (Int32.ofNat hi)), .val (.int (Int32.ofNat ((lo + hi) / 2))), .val (.double u), .second, .val (.double v), .second, .val (.int (Int32.ofNat lo))] (by rcases hs with ⟨rfl, rfl, rfl, rfl, rfl, rfl⟩ | ⟨_, _, _, _, rfl, rfl, rfl, rfl, rfl, rfl⟩ <;> rfl) ?_
          refine wdload C X10 f6_168 rfl ?_
          refine waloadN C X10 f6_170 rfl rfl ?_
          refine wget C X10 (host := "") (Or.inl (tw_10 hw)) Via.refl e10 ((F1.other W6 (Or.inl na)).other W8 (Or.inl na)) f6_171 ?_
          intro T12 X12 e12
          refine wiload C X12 f6_174 rfl ?_
          refine wdaload C X12 e12 ((V1.other W6 np).other W8 np) f6_176 (own_ix4 _ (by omega)) (i := lo) (own_cl _ (by omega)) (v := p1) gl ?_
          refine wdload C X12 f6_177 rfl ?_
          refine wdadd C X12 f6_179 (v := (FP.dadd p1 ko)) rfl (own_H_nn (own_pd hpl hkl)) ?_
          refine wdmul C X12 f6_180 (v := (FP.dmul ku (FP.dadd p1 ko))) rfl (own_H_nn (own_lv hpl hkl)) ?_
          refine wdload C X12 f6_181 rfl ?_
          refine waloadN C X12 f6_183 rfl rfl ?_
          refine wget C X12 (host := "") (Or.inl (tw_10 hw)) Via.refl e12 ((F1.other W6 (Or.inl na)).other W8 (Or.inl na)) f6_184 ?_
          intro T13 X13 e13
          refine wiload C X13 f6_187 rfl ?_
          refine wdaload C X13 e13 ((V1.other W6 np).other W8 np) f6_189 (own_ix4 _ (by omega)) (i := lo) (own_cl _ (by omega)) (v := p1) gl ?_
          refine wdload C X13 f6_190 rfl ?_
          refine wdadd C X13 f6_192 (v := (FP.dadd p1 v)) rfl (own_H_nn (own_pd hpl hl)) ?_
          refine wdmul C X13 f6_193 (v := (FP.dmul u (FP.dadd p1 v))) rfl (own_H_nn (own_lv hpl hl)) ?_
          refine wdcmp C X13 f6_194 (v := (cmpValue (FP.dcmp (FP.dmul ku (FP.dadd p1 ko)) (FP.dmul u (FP.dadd p1 v))) .l)) rfl ?_
          refine wif_gt C X13 f6_195 (fun hc195 => ?_) (fun hc195 => ?_)
          · refine wdload C X13 f6_199 rfl ?_
            refine wdload C X13 f6_201 rfl ?_
            refine wdcmp C X13 f6_203 (v := (cmpValue (FP.dcmp ku u) .g)) rfl ?_
            refine wif_ge C X13 f6_204 ?_ (fun q => absurd hc156 q)
            intro _
            refine wiload C X13 f6_207 rfl ?_
            refine wiconst C X13 f6_209 (1 : Int32) rfl ?_
            refine wiadd C X13 f6_210 ?_
            refine own_foldI (z := (Int32.ofNat (nd + 1))) (own_n1 _ (by omega)) ?_
            refine wistore C X13 f6_211 #[.val (.ref a), .val (.double wB), .second, .val (.double dB), .second, .val (.double ku), .second, .val (.double ko), .second, .val (.int (Int32.ofNat (nd + 1))), .val (.int (Int32.ofNat lo)), .val (.int (Int32.ofNat hi)), .val (.int (Int32.ofNat ((lo + hi) / 2))), .val (.double u), .second, .val (.double v), .second, .val (.int (Int32.ofNat lo))] rfl ?_
            refine wiload C X13 f6_213 rfl ?_
            refine wistore C X13 f6_215 #[.val (.ref a), .val (.double wB), .second, .val (.double dB), .second, .val (.double ku), .second, .val (.double ko), .second, .val (.int (Int32.ofNat (nd + 1))), .val (.int (Int32.ofNat lo)), .val (.int (Int32.ofNat ((lo + hi) / 2))), .val (.int (Int32.ofNat ((lo + hi) / 2))), .val (.double u), .second, .val (.double v), .second, .val (.int (Int32.ofNat lo))] rfl ?_
            refine wgoto C X13 f6_217 ?_
            refine wgoto C X13 f6_240 ?_
            have hm : (W nd) * (P ((lo + hi) / 2) + (D nd)) ≤ (own_upd W nd w) nd * (P ((lo + hi) / 2) + (own_upd D nd d) nd) := by
              have q := (own_H_gt (own_lv hpm hl) (own_lv hpm hkl) _).mp hc84; rw [own_upd_same, own_upd_same]; omega
            have hwk : (own_upd W nd w) nd = w := own_upd_same _ _ _
            have hwl : (W nd) ≤ (own_upd W nd w) nd := by have q := (own_lt hkl.1 hl.1 _).mp hc156; rw [hwk]; omega
            have hne : lo ≠ hi := fun q => hc147 (by rw [q])
            obtain ⟨f', rfl⟩ : ∃ f', f = f' + 1 := ⟨f - 1, by omega⟩
            have q14 := ((K0.wr W6 (Or.inl (List.mem_of_getElem? (i := 0) rfl))).wr W8 (Or.inl (List.mem_of_getElem? (i := 0) rfl)))
            refine Go.mono (IH f' (by omega) X13 hkC hkS e13 N8 q14 ((F1.other W6 (Or.inl na)).other W8 (Or.inl na)) ((F3.other W6 (Or.inl na)).other W8 (Or.inl na)) ((V1.other W6 np).other W8 np) V8 (own_Ls_set hL (by omega) hl) hkl (Or.inr ⟨_, _, _, _, rfl, rfl, rfl, rfl, rfl, rfl⟩) (by omega) (by omega) (by omega) (by omega)) ?_
            intro v9 h9 L9 q9
            obtain ⟨r1, r2, r3, ls', W', D', r4, r5, r6⟩ := q9
            exact ⟨r1, r2, r3, ls', W', D', r4, r5, (own_ins_swap b1 (own_ins_left (by omega) (fun i a1 a2 => own_mono_lt hwl (hmono _ _ (by omega) (by omega)) hm) r6))⟩
          · refine wret C X13 f6_198 rfl hkC hkS ?_
            have hm : (W nd) * (P ((lo + hi) / 2) + (D nd)) ≤ (own_upd W nd w) nd * (P ((lo + hi) / 2) + (own_upd D nd d) nd) := by
              have q := (own_H_gt (own_lv hpm hl) (own_lv hpm hkl) _).mp hc84; rw [own_upd_same, own_upd_same]; omega
            have hwk : (own_upd W nd w) nd = w := own_upd_same _ _ _
            have hwl : (W nd) ≤ (own_upd W nd w) nd := by have q := (own_lt hkl.1 hl.1 _).mp hc156; rw [hwk]; omega
            have he : (W nd) * (P lo + (D nd)) ≤ (own_upd W nd w) nd * (P lo + (own_upd D nd d) nd) := by
              have q := mt (own_H_gt (own_lv hpl hkl) (own_lv hpl hl) _).mpr hc195; rw [own_upd_same, own_upd_same]; omega
            have q15 := ((K0.wr W6 (Or.inl (List.mem_of_getElem? (i := 0) rfl))).wr W8 (Or.inl (List.mem_of_getElem? (i := 0) rfl)))
            rw [e13]
            exact ⟨rfl, N8, q15, _, (own_upd W nd w), (own_upd D nd d), V8, (own_Ls_set hL (by omega) hl), (own_ins_swap b1 (own_ins_stop fun i a1 a2 => own_mono_lt hwl (hmono _ _ a1 (by omega)) he))⟩
        · refine wiload C X10 f6_164 rfl ?_
          refine wistore C X10 f6_166 #[.val (.ref a), .val (.double wB), .second, .val (.double dB), .second, .val (.double ku), .second, .val (.double ko), .second, .val (.int (Int32.ofNat nd)), .val (.int (Int32.ofNat lo)), .val (.int (Int32.ofNat hi)), .val (.int (Int32.ofNat ((lo + hi) / 2))), .val (.double u), .second, .val (.double v), .second, .val (.int (Int32.ofNat hi))] (by rcases hs with ⟨rfl, rfl, rfl, rfl, rfl, rfl⟩ | ⟨_, _, _, _, rfl, rfl, rfl, rfl, rfl, rfl⟩ <;> rfl) ?_
          refine wdload C X10 f6_168 rfl ?_
          refine waloadN C X10 f6_170 rfl rfl ?_
          refine wget C X10 (host := "") (Or.inl (tw_10 hw)) Via.refl e10 ((F1.other W6 (Or.inl na)).other W8 (Or.inl na)) f6_171 ?_
          intro T16 X16 e16
          refine wiload C X16 f6_174 rfl ?_
          refine wdaload C X16 e16 ((V1.other W6 np).other W8 np) f6_176 (own_ix4 _ (by omega)) (i := hi) (own_cl _ (by omega)) (v := p2) gh ?_
          refine wdload C X16 f6_177 rfl ?_
          refine wdadd C X16 f6_179 (v := (FP.dadd p2 ko)) rfl (own_H_nn (own_pd hph hkl)) ?_
          refine wdmul C X16 f6_180 (v := (FP.dmul ku (FP.dadd p2 ko))) rfl (own_H_nn (own_lv hph hkl)) ?_
          refine wdload C X16 f6_181 rfl ?_
          refine waloadN C X16 f6_183 rfl rfl ?_
          refine wget C X16 (host := "") (Or.inl (tw_10 hw)) Via.refl e16 ((F1.other W6 (Or.inl na)).other W8 (Or.inl na)) f6_184 ?_
          intro T17 X17 e17
          refine wiload C X17 f6_187 rfl ?_
          refine wdaload C X17 e17 ((V1.other W6 np).other W8 np) f6_189 (own_ix4 _ (by omega)) (i := hi) (own_cl _ (by omega)) (v := p2) gh ?_
          refine wdload C X17 f6_190 rfl ?_
          refine wdadd C X17 f6_192 (v := (FP.dadd p2 v)) rfl (own_H_nn (own_pd hph hl)) ?_
          refine wdmul C X17 f6_193 (v := (FP.dmul u (FP.dadd p2 v))) rfl (own_H_nn (own_lv hph hl)) ?_
          refine wdcmp C X17 f6_194 (v := (cmpValue (FP.dcmp (FP.dmul ku (FP.dadd p2 ko)) (FP.dmul u (FP.dadd p2 v))) .l)) rfl ?_
          refine wif_gt C X17 f6_195 (fun hc195 => ?_) (fun hc195 => ?_)
          · refine wdload C X17 f6_199 rfl ?_
            refine wdload C X17 f6_201 rfl ?_
            refine wdcmp C X17 f6_203 (v := (cmpValue (FP.dcmp ku u) .g)) rfl ?_
            refine wif_ge C X17 f6_204 (fun q => absurd q hc156) ?_
            intro _
            refine wiload C X17 f6_220 rfl ?_
            refine wiconst C X17 f6_222 (2 : Int32) rfl ?_
            refine wiload C X17 f6_223 rfl ?_
            refine wiload C X17 f6_225 rfl ?_
            refine wisub C X17 f6_227 ?_
            refine wiconst C X17 f6_228 (1 : Int32) rfl ?_
            refine wiadd C X17 f6_229 ?_
            refine wimul C X17 f6_230 ?_
            refine wiadd C X17 f6_231 ?_
            refine own_foldI (z := (Int32.ofNat (nd + 2 * ((lo + hi) / 2 - lo + 1)))) (own_nr _ (by omega) _ (by omega) _ (by omega)) ?_
            refine wistore C X17 f6_232 #[.val (.ref a), .val (.double wB), .second, .val (.double dB), .second, .val (.double ku), .second, .val (.double ko), .second, .val (.int (Int32.ofNat (nd + 2 * ((lo + hi) / 2 - lo + 1)))), .val (.int (Int32.ofNat lo)), .val (.int (Int32.ofNat hi)), .val (.int (Int32.ofNat ((lo + hi) / 2))), .val (.double u), .second, .val (.double v), .second, .val (.int (Int32.ofNat hi))] rfl ?_
            refine wiload C X17 f6_234 rfl ?_
            refine wiconst C X17 f6_236 (1 : Int32) rfl ?_
            refine wiadd C X17 f6_237 ?_
            refine own_foldI (z := (Int32.ofNat ((lo + hi) / 2 + 1))) (own_n1 _ (by omega)) ?_
            refine wistore C X17 f6_238 #[.val (.ref a), .val (.double wB), .second, .val (.double dB), .second, .val (.double ku), .second, .val (.double ko), .second, .val (.int (Int32.ofNat (nd + 2 * ((lo + hi) / 2 - lo + 1)))), .val (.int (Int32.ofNat ((lo + hi) / 2 + 1))), .val (.int (Int32.ofNat hi)), .val (.int (Int32.ofNat ((lo + hi) / 2))), .val (.double u), .second, .val (.double v), .second, .val (.int (Int32.ofNat hi))] rfl ?_
            refine wgoto C X17 f6_240 ?_
            have hm : (W nd) * (P ((lo + hi) / 2) + (D nd)) ≤ (own_upd W nd w) nd * (P ((lo + hi) / 2) + (own_upd D nd d) nd) := by
              have q := (own_H_gt (own_lv hpm hl) (own_lv hpm hkl) _).mp hc84; rw [own_upd_same, own_upd_same]; omega
            have hwk : (own_upd W nd w) nd = w := own_upd_same _ _ _
            have hwl : (own_upd W nd w) nd ≤ (W nd) := by have q := mt (own_lt hkl.1 hl.1 _).mpr hc156; rw [hwk]; omega
            have hne : lo ≠ hi := fun q => hc147 (by rw [q])
            obtain ⟨f', rfl⟩ : ∃ f', f = f' + 1 := ⟨f - 1, by omega⟩
            have q18 := ((K0.wr W6 (Or.inl (List.mem_of_getElem? (i := 0) rfl))).wr W8 (Or.inl (List.mem_of_getElem? (i := 0) rfl)))
            refine Go.mono (IH f' (by omega) X17 hkC hkS e17 N8 q18 ((F1.other W6 (Or.inl na)).other W8 (Or.inl na)) ((F3.other W6 (Or.inl na)).other W8 (Or.inl na)) ((V1.other W6 np).other W8 np) V8 (own_Ls_set hL (by omega) hl) hkl (Or.inr ⟨_, _, _, _, rfl, rfl, rfl, rfl, rfl, rfl⟩) (by omega) (by omega) (by omega) (by omega)) ?_
            intro v9 h9 L9 q9
            obtain ⟨r1, r2, r3, ls', W', D', r4, r5, r6⟩ := q9
            exact ⟨r1, r2, r3, ls', W', D', r4, r5, (own_ins_swap b1 (own_ins_right (by omega) (fun i a1 a2 => own_mono_gt hwl (hmono _ _ a2 (by omega)) hm) r6))⟩
          · refine wret C X17 f6_198 rfl hkC hkS ?_
            have hm : (W nd) * (P ((lo + hi) / 2) + (D nd)) ≤ (own_upd W nd w) nd * (P ((lo + hi) / 2) + (own_upd D nd d) nd) := by
              have q := (own_H_gt (own_lv hpm hl) (own_lv hpm hkl) _).mp hc84; rw [own_upd_same, own_upd_same]; omega
            have hwk : (own_upd W nd w) nd = w := own_upd_same _ _ _
            have hwl : (own_upd W nd w) nd ≤ (W nd) := by have q := mt (own_lt hkl.1 hl.1 _).mpr hc156; rw [hwk]; omega
            have he : (W nd) * (P hi + (D nd)) ≤ (own_upd W nd w) nd * (P hi + (own_upd D nd d) nd) := by
              have q := mt (own_H_gt (own_lv hph hkl) (own_lv hph hl) _).mpr hc195; rw [own_upd_same, own_upd_same]; omega
            have q19 := ((K0.wr W6 (Or.inl (List.mem_of_getElem? (i := 0) rfl))).wr W8 (Or.inl (List.mem_of_getElem? (i := 0) rfl)))
            rw [e17]
            exact ⟨rfl, N8, q19, _, (own_upd W nd w), (own_upd D nd d), V8, (own_Ls_set hL (by omega) hl), (own_ins_swap b1 (own_ins_stop fun i a1 a2 => own_mono_gt hwl (hmono _ _ a2 (by omega)) he))⟩
    · refine wiload C X4 f6_143 rfl ?_
      refine wiload C X4 f6_145 rfl ?_
      refine wicmp_ne C X4 f6_147 (fun hc147 => ?_) (fun hc147 => ?_)
      · refine wret C X4 f6_150 rfl hkC hkS ?_
        have hm : w * (P ((lo + hi) / 2) + d) ≤ W nd * (P ((lo + hi) / 2) + D nd) := by
          have q := mt (own_H_gt (own_lv hpm hl) (own_lv hpm hkl) _).mpr hc84; omega
        rw [e4]
        exact ⟨rfl, N0, K0, _, W, D, V2, hL, (own_ins_stop fun i a1 a2 => by have q := own_eqn _ (by omega) _ (by omega) hc147; have q2 : i = (lo + hi) / 2 := (by omega); subst q2; exact hm)⟩
      · refine wdload C X4 f6_151 rfl ?_
        refine wdload C X4 f6_153 rfl ?_
        refine wdcmp C X4 f6_155 (v := (cmpValue (FP.dcmp u ku) .g)) rfl ?_
        refine wif_ge C X4 f6_156 (fun hc156 => ?_) (fun hc156 => ?_)
        · refine wiload C X4 f6_159 rfl ?_
          refine wgoto C X4 f6_161 ?_
          refine wistore C X4 f6_166 #[.val (.ref a), .val (.double wB), .second, .val (.double dB), .second, .val (.double u), .second, .val (.double v), .second, .val (.int (Int32.ofNat nd)), .val (.int (Int32.ofNat lo)), .val (.int (Int32.ofNat hi)), .val (.int (Int32.ofNat ((lo + hi) / 2))), .val (.double ku), .second, .val (.double ko), .second, .val (.int (Int32.ofNat lo))] (by rcases hs with ⟨rfl, rfl, rfl, rfl, rfl, rfl⟩ | ⟨_, _, _, _, rfl, rfl, rfl, rfl, rfl, rfl⟩ <;> rfl) ?_
          refine wdload C X4 f6_168 rfl ?_
          refine waloadN C X4 f6_170 rfl rfl ?_
          refine wget C X4 (host := "") (Or.inl (tw_10 hw)) Via.refl e4 F1 f6_171 ?_
          intro T20 X20 e20
          refine wiload C X20 f6_174 rfl ?_
          refine wdaload C X20 e20 V1 f6_176 (own_ix4 _ (by omega)) (i := lo) (own_cl _ (by omega)) (v := p1) gl ?_
          refine wdload C X20 f6_177 rfl ?_
          refine wdadd C X20 f6_179 (v := (FP.dadd p1 v)) rfl (own_H_nn (own_pd hpl hl)) ?_
          refine wdmul C X20 f6_180 (v := (FP.dmul u (FP.dadd p1 v))) rfl (own_H_nn (own_lv hpl hl)) ?_
          refine wdload C X20 f6_181 rfl ?_
          refine waloadN C X20 f6_183 rfl rfl ?_
          refine wget C X20 (host := "") (Or.inl (tw_10 hw)) Via.refl e20 F1 f6_184 ?_
          intro T21 X21 e21
          refine wiload C X21 f6_187 rfl ?_
          refine wdaload C X21 e21 V1 f6_189 (own_ix4 _ (by omega)) (i := lo) (own_cl _ (by omega)) (v := p1) gl ?_
          refine wdload C X21 f6_190 rfl ?_
          refine wdadd C X21 f6_192 (v := (FP.dadd p1 ko)) rfl (own_H_nn (own_pd hpl hkl)) ?_
          refine wdmul C X21 f6_193 (v := (FP.dmul ku (FP.dadd p1 ko))) rfl (own_H_nn (own_lv hpl hkl)) ?_
          refine wdcmp C X21 f6_194 (v := (cmpValue (FP.dcmp (FP.dmul u (FP.dadd p1 v)) (FP.dmul ku (FP.dadd p1 ko))) .l)) rfl ?_
          refine wif_gt C X21 f6_195 (fun hc195 => ?_) (fun hc195 => ?_)
          · refine wdload C X21 f6_199 rfl ?_
            refine wdload C X21 f6_201 rfl ?_
            refine wdcmp C X21 f6_203 (v := (cmpValue (FP.dcmp u ku) .g)) rfl ?_
            refine wif_ge C X21 f6_204 ?_ (fun q => absurd hc156 q)
            intro _
            refine wiload C X21 f6_207 rfl ?_
            refine wiconst C X21 f6_209 (1 : Int32) rfl ?_
            refine wiadd C X21 f6_210 ?_
            refine own_foldI (z := (Int32.ofNat (nd + 1))) (own_n1 _ (by omega)) ?_
            refine wistore C X21 f6_211 #[.val (.ref a), .val (.double wB), .second, .val (.double dB), .second, .val (.double u), .second, .val (.double v), .second, .val (.int (Int32.ofNat (nd + 1))), .val (.int (Int32.ofNat lo)), .val (.int (Int32.ofNat hi)), .val (.int (Int32.ofNat ((lo + hi) / 2))), .val (.double ku), .second, .val (.double ko), .second, .val (.int (Int32.ofNat lo))] rfl ?_
            refine wiload C X21 f6_213 rfl ?_
            refine wistore C X21 f6_215 #[.val (.ref a), .val (.double wB), .second, .val (.double dB), .second, .val (.double u), .second, .val (.double v), .second, .val (.int (Int32.ofNat (nd + 1))), .val (.int (Int32.ofNat lo)), .val (.int (Int32.ofNat ((lo + hi) / 2))), .val (.int (Int32.ofNat ((lo + hi) / 2))), .val (.double ku), .second, .val (.double ko), .second, .val (.int (Int32.ofNat lo))] rfl ?_
            refine wgoto C X21 f6_217 ?_
            refine wgoto C X21 f6_240 ?_
            have hm : w * (P ((lo + hi) / 2) + d) ≤ W nd * (P ((lo + hi) / 2) + D nd) := by
              have q := mt (own_H_gt (own_lv hpm hl) (own_lv hpm hkl) _).mpr hc84; omega
            have hwk : W nd = W nd := rfl
            have hwl : w ≤ W nd := by have q := (own_lt hl.1 hkl.1 _).mp hc156; rw [hwk]; omega
            have hne : lo ≠ hi := fun q => hc147 (by rw [q])
            obtain ⟨f', rfl⟩ : ∃ f', f = f' + 1 := ⟨f - 1, by omega⟩
            refine Go.mono (IH f' (by omega) X21 hkC hkS e21 N0 K0 F1 F3 V1 V2 hL hl (Or.inr ⟨_, _, _, _, rfl, rfl, rfl, rfl, rfl, rfl⟩) (by omega) (by omega) (by omega) (by omega)) ?_
            intro v9 h9 L9 q9
            obtain ⟨r1, r2, r3, ls', W', D', r4, r5, r6⟩ := q9
            exact ⟨r1, r2, r3, ls', W', D', r4, r5, (own_ins_left (by omega) (fun i a1 a2 => own_mono_lt hwl (hmono _ _ (by omega) (by omega)) hm) r6)⟩
          · refine wret C X21 f6_198 rfl hkC hkS ?_
            have hm : w * (P ((lo + hi) / 2) + d) ≤ W nd * (P ((lo + hi) / 2) + D nd) := by
              have q := mt (own_H_gt (own_lv hpm hl) (own_lv hpm hkl) _).mpr hc84; omega
            have hwk : W nd = W nd := rfl
            have hwl : w ≤ W nd := by have q := (own_lt hl.1 hkl.1 _).mp hc156; rw [hwk]; omega
            have he : w * (P lo + d) ≤ W nd * (P lo + D nd) := by
              have q := mt (own_H_gt (own_lv hpl hl) (own_lv hpl hkl) _).mpr hc195; omega
            rw [e21]
            exact ⟨rfl, N0, K0, _, W, D, V2, hL, (own_ins_stop fun i a1 a2 => own_mono_lt hwl (hmono _ _ a1 (by omega)) he)⟩
        · refine wiload C X4 f6_164 rfl ?_
          refine wistore C X4 f6_166 #[.val (.ref a), .val (.double wB), .second, .val (.double dB), .second, .val (.double u), .second, .val (.double v), .second, .val (.int (Int32.ofNat nd)), .val (.int (Int32.ofNat lo)), .val (.int (Int32.ofNat hi)), .val (.int (Int32.ofNat ((lo + hi) / 2))), .val (.double ku), .second, .val (.double ko), .second, .val (.int (Int32.ofNat hi))] (by rcases hs with ⟨rfl, rfl, rfl, rfl, rfl, rfl⟩ | ⟨_, _, _, _, rfl, rfl, rfl, rfl, rfl, rfl⟩ <;> rfl) ?_
          refine wdload C X4 f6_168 rfl ?_
          refine waloadN C X4 f6_170 rfl rfl ?_
          refine wget C X4 (host := "") (Or.inl (tw_10 hw)) Via.refl e4 F1 f6_171 ?_
          intro T22 X22 e22
          refine wiload C X22 f6_174 rfl ?_
          refine wdaload C X22 e22 V1 f6_176 (own_ix4 _ (by omega)) (i := hi) (own_cl _ (by omega)) (v := p2) gh ?_
          refine wdload C X22 f6_177 rfl ?_
          refine wdadd C X22 f6_179 (v := (FP.dadd p2 v)) rfl (own_H_nn (own_pd hph hl)) ?_
          refine wdmul C X22 f6_180 (v := (FP.dmul u (FP.dadd p2 v))) rfl (own_H_nn (own_lv hph hl)) ?_
          refine wdload C X22 f6_181 rfl ?_
          refine waloadN C X22 f6_183 rfl rfl ?_
          refine wget C X22 (host := "") (Or.inl (tw_10 hw)) Via.refl e22 F1 f6_184 ?_
          intro T23 X23 e23
          refine wiload C X23 f6_187 rfl ?_
          refine wdaload C X23 e23 V1 f6_189 (own_ix4 _ (by omega)) (i := hi) (own_cl _ (by omega)) (v := p2) gh ?_
          refine wdload C X23 f6_190 rfl ?_
          refine wdadd C X23 f6_192 (v := (FP.dadd p2 ko)) rfl (own_H_nn (own_pd hph hkl)) ?_
          refine wdmul C X23 f6_193 (v := (FP.dmul ku (FP.dadd p2 ko))) rfl (own_H_nn (own_lv hph hkl)) ?_
          refine wdcmp C X23 f6_194 (v := (cmpValue (FP.dcmp (FP.dmul u (FP.dadd p2 v)) (FP.dmul ku (FP.dadd p2 ko))) .l)) rfl ?_
          refine wif_gt C X23 f6_195 (fun hc195 => ?_) (fun hc195 => ?_)
          · refine wdload C X23 f6_199 rfl ?_
            refine wdload C X23 f6_201 rfl ?_
            refine wdcmp C X23 f6_203 (v := (cmpValue (FP.dcmp u ku) .g)) rfl ?_
            refine wif_ge C X23 f6_204 (fun q => absurd q hc156) ?_
            intro _
            refine wiload C X23 f6_220 rfl ?_
            refine wiconst C X23 f6_222 (2 : Int32) rfl ?_
            refine wiload C X23 f6_223 rfl ?_
            refine wiload C X23 f6_225 rfl ?_
            refine wisub C X23 f6_227 ?_
            refine wiconst C X23 f6_228 (1 : Int32) rfl ?_
            refine wiadd C X23 f6_229 ?_
            refine wimul C X23 f6_230 ?_
            refine wiadd C X23 f6_231 ?_
            refine own_foldI (z := (Int32.ofNat (nd + 2 * ((lo + hi) / 2 - lo + 1)))) (own_nr _ (by omega) _ (by omega) _ (by omega)) ?_
            refine wistore C X23 f6_232 #[.val (.ref a), .val (.double wB), .second, .val (.double dB), .second, .val (.double u), .second, .val (.double v), .second, .val (.int (Int32.ofNat (nd + 2 * ((lo + hi) / 2 - lo + 1)))), .val (.int (Int32.ofNat lo)), .val (.int (Int32.ofNat hi)), .val (.int (Int32.ofNat ((lo + hi) / 2))), .val (.double ku), .second, .val (.double ko), .second, .val (.int (Int32.ofNat hi))] rfl ?_
            refine wiload C X23 f6_234 rfl ?_
            refine wiconst C X23 f6_236 (1 : Int32) rfl ?_
            refine wiadd C X23 f6_237 ?_
            refine own_foldI (z := (Int32.ofNat ((lo + hi) / 2 + 1))) (own_n1 _ (by omega)) ?_
            refine wistore C X23 f6_238 #[.val (.ref a), .val (.double wB), .second, .val (.double dB), .second, .val (.double u), .second, .val (.double v), .second, .val (.int (Int32.ofNat (nd + 2 * ((lo + hi) / 2 - lo + 1)))), .val (.int (Int32.ofNat ((lo + hi) / 2 + 1))), .val (.int (Int32.ofNat hi)), .val (.int (Int32.ofNat ((lo + hi) / 2))), .val (.double ku), .second, .val (.double ko), .second, .val (.int (Int32.ofNat hi))] rfl ?_
            refine wgoto C X23 f6_240 ?_
            have hm : w * (P ((lo + hi) / 2) + d) ≤ W nd * (P ((lo + hi) / 2) + D nd) := by
              have q := mt (own_H_gt (own_lv hpm hl) (own_lv hpm hkl) _).mpr hc84; omega
            have hwk : W nd = W nd := rfl
            have hwl : W nd ≤ w := by have q := mt (own_lt hl.1 hkl.1 _).mpr hc156; rw [hwk]; omega
            have hne : lo ≠ hi := fun q => hc147 (by rw [q])
            obtain ⟨f', rfl⟩ : ∃ f', f = f' + 1 := ⟨f - 1, by omega⟩
            refine Go.mono (IH f' (by omega) X23 hkC hkS e23 N0 K0 F1 F3 V1 V2 hL hl (Or.inr ⟨_, _, _, _, rfl, rfl, rfl, rfl, rfl, rfl⟩) (by omega) (by omega) (by omega) (by omega)) ?_
            intro v9 h9 L9 q9
            obtain ⟨r1, r2, r3, ls', W', D', r4, r5, r6⟩ := q9
            exact ⟨r1, r2, r3, ls', W', D', r4, r5, (own_ins_right (by omega) (fun i a1 a2 => own_mono_gt hwl (hmono _ _ a2 (by omega)) hm) r6)⟩
          · refine wret C X23 f6_198 rfl hkC hkS ?_
            have hm : w * (P ((lo + hi) / 2) + d) ≤ W nd * (P ((lo + hi) / 2) + D nd) := by
              have q := mt (own_H_gt (own_lv hpm hl) (own_lv hpm hkl) _).mpr hc84; omega
            have hwk : W nd = W nd := rfl
            have hwl : W nd ≤ w := by have q := mt (own_lt hl.1 hkl.1 _).mpr hc156; rw [hwk]; omega
            have he : w * (P hi + d) ≤ W nd * (P hi + D nd) := by
              have q := mt (own_H_gt (own_lv hph hl) (own_lv hph hkl) _).mpr hc195; omega
            rw [e23]
            exact ⟨rfl, N0, K0, _, W, D, V2, hL, (own_ins_stop fun i a1 a2 => own_mono_gt hwl (hmono _ _ a2 (by omega)) he)⟩
theorem own_k1 : ∀ k, k < 5 → 1 ≤ k → Int32.ofNat k - (1 : Int32) = Int32.ofNat (k - 1) := by decide
theorem f6_0 : Dec prog_12_method_3_code 0 (.dload_n 1) 1 1 := ⟨by decide +kernel, rfl⟩
theorem f6_1 : Dec prog_12_method_3_code 1 (.dstore 5) 2 3 := ⟨by decide +kernel, rfl⟩
theorem f6_3 : Dec prog_12_method_3_code 3 (.dload_n 3) 1 4 := ⟨by decide +kernel, rfl⟩
theorem f6_4 : Dec prog_12_method_3_code 4 (.ldc2_w 20) 3 7 := ⟨by decide +kernel, rfl⟩
theorem f6_7 : Dec prog_12_method_3_code 7 (.ddiv) 1 8 := ⟨by decide +kernel, rfl⟩
theorem f6_8 : Dec prog_12_method_3_code 8 (.dstore 7) 2 10 := ⟨by decide +kernel, rfl⟩
theorem f6_10 : Dec prog_12_method_3_code 10 (.iconst 0) 1 11 := ⟨by decide +kernel, rfl⟩
theorem f6_11 : Dec prog_12_method_3_code 11 (.istore 9) 2 13 := ⟨by decide +kernel, rfl⟩
theorem f6_13 : Dec prog_12_method_3_code 13 (.iconst 0) 1 14 := ⟨by decide +kernel, rfl⟩
theorem f6_14 : Dec prog_12_method_3_code 14 (.istore 10) 2 16 := ⟨by decide +kernel, rfl⟩
theorem f6_16 : Dec prog_12_method_3_code 16 (.aload_n 0) 1 17 := ⟨by decide +kernel, rfl⟩
theorem f6_17 : Dec prog_12_method_3_code 17 (.getfield 16) 3 20 := ⟨by decide +kernel, rfl⟩
theorem f6_20 : Dec prog_12_method_3_code 20 (.iconst 1) 1 21 := ⟨by decide +kernel, rfl⟩
theorem f6_21 : Dec prog_12_method_3_code 21 (.isub) 1 22 := ⟨by decide +kernel, rfl⟩
theorem f6_22 : Dec prog_12_method_3_code 22 (.istore 11) 2 24 := ⟨by decide +kernel, rfl⟩
theorem pn_6 : plainFor (⟨"com/example/arbor_center/arborcenter/objective/UpperEnvelope", "add", "(DD)V"⟩ : MethodName) = true := plainFor_of_name (show plainName "com/example/arbor_center/arborcenter/objective/UpperEnvelope" = true by first | (simp [plainName, overriddenIn]; done) | decide +kernel)
theorem ef_6 (m : MethodId) (a : Addr) (wB : UInt64) (dB : UInt64) : entryFrame m #[(.ref a), (.double wB), (.double dB)] 18 = mkF m 0 #[.val (.ref a), .val (.double wB), .second, .val (.double dB), .second, .unset, .unset, .unset, .unset, .unset, .unset, .unset, .unset, .unset, .unset, .unset, .unset, .unset] [] := by first | (simp [entryFrame, mkF, argsToLocals, Value.category]; done) | rfl
def Q6 (Z : State) (a : Addr) (wB : UInt64) (dB : UInt64) (ph : Addr) (pl : Addr) (k1 : ClassId) (k2 : ClassId) (k : Nat) (hp : List Value) (ls : List Value) (P : Nat → Int) (W : Nat → Int) (D : Nat → Int) (w : Int) (d : Int) (h0 : Heap) (n0 : Nat) (v9 : Option Value) (h9 : Heap) (L9 : List Loc) : Prop := ∃ (ls' : List Value), ∃ (W' : Nat → Int), ∃ (D' : Nat → Int), v9 = none ∧ Fr n0 L9 ∧ Keep h0 h9 [pl] ∧ Arv Z h9 pl k2 .double (14 : Int32) ls' (.double (0 : UInt64)) ∧ (own_Ls ls' W' D') ∧ (∀ i, i < k → own_pm 3 0 0 (k - 1) W' D' (P i) i = max (own_pm 3 0 0 (k - 1) W D (P i) i) (w * (P i + d)))
set_option maxRecDepth 65536 in
set_option maxHeartbeats 40000000 in
theorem rm6 (l : Launch) (Z : State) (a0 : Array Value) (hw : ∀ d ∈ tables_1, d.before a0 Z = true) (ws : List Jvm.Cond) (a : Addr) (wB : UInt64) (dB : UInt64) (ph : Addr) (pl : Addr) (k1 : ClassId) (k2 : ClassId) (k : Nat) (hp : List Value) (ls : List Value) (P : Nat → Int) (W : Nat → Int) (D : Nat → Int) (w : Int) (d : Int) (h0 : Heap) (n0 : Nat) (Z0 : n0 ≤ h0.size) (Fld_0 : Fld Z h0 a "com/example/arbor_center/arborcenter/objective/UpperEnvelope" "halfPoints" "[D" (.ref ph)) (Fld_1 : Fld Z h0 a "com/example/arbor_center/arborcenter/objective/UpperEnvelope" "count" "I" (.int (Int32.ofNat k))) (Fld_2 : Fld Z h0 a "com/example/arbor_center/arborcenter/objective/UpperEnvelope" "lines" "[D" (.ref pl)) (Arv_3 : Arv Z h0 ph k1 .double (4 : Int32) hp (.double (0 : UInt64))) (Arv_4 : Arv Z h0 pl k2 .double (14 : Int32) ls (.double (0 : UInt64))) (ge_5 : n0 ≤ pl) (ne_6 : a ≠ pl) (ne_7 : ph ≠ pl) (hL : (own_Ls ls W D)) (hP : (own_Ps hp P k)) (hmono : (∀ i j, i ≤ j → j < k → P i ≤ P j)) (hk1 : (1 ≤ k)) (hk4 : (k ≤ 4)) (hl : (FP.Core.DInt w wB ∧ FP.Core.DInt d dB ∧ 0 ≤ w ∧ w ≤ 65536 ∧ 0 ≤ d ∧ d ≤ 32768)) :
    MetFree l (⟨"com/example/arbor_center/arborcenter/objective/UpperEnvelope", "add", "(DD)V"⟩ : MethodName) (head1 (Jvm.Cond.code (⟨"com/example/arbor_center/arborcenter/objective/UpperEnvelope", "add", "(DD)V"⟩ : MethodName) prog_12_method_3_code 18 none :: ws) ({ frames := 0, cells := 0, slots := 0, locals := 0 } : Room)) (fun A9 U9 => A9 = #[(.ref a), (.double wB), (.double dB)] ∧ Z.Warmed39 U9.vm ∧ U9.heap = h0) (fun _ _ _ _ _ => True) (fun _ U9 o9 V9 => ∃ v9 L9, o9 = .returned v9 ∧ (Q6 Z a wB dB ph pl k1 k2 k hp ls P W D w d h0 n0) v9 V9.heap L9 ∧ FrameEnd U9 o9 V9 L9 ({ frames := 0, cells := 0, slots := 0, locals := 0 } : Room).cells ({ frames := 0, cells := 0, slots := 0, locals := 0 } : Room).slots) := by
  refine met_of (Q := (Q6 Z a wB dB ph pl k1 k2 k hp ls P W D w d h0 n0)) pn_6 ?_
  intro p e s m below meth c T0 C X0 e0
  have N0 := Fr.nil n0
  refine Go.cast (ef_6 m a wB dB) ?_
  refine wdloadN C X0 f6_0 rfl ?_
  refine wdstore C X0 f6_1 #[.val (.ref a), .val (.double wB), .second, .val (.double dB), .second, .val (.double wB), .second, .unset, .unset, .unset, .unset, .unset, .unset, .unset, .unset, .unset, .unset, .unset] rfl ?_
  refine wdloadN C X0 f6_3 rfl ?_
  refine wldc2D C X0 (tw_21 hw) f6_4 ?_
  refine wddiv C X0 f6_7 (v := (FP.ddiv dB (4611686018427387904 : UInt64))) rfl (own_H_nn (own_H_div hl.2.1 (by have := hl.2.2; omega))) ?_
  refine wdstore C X0 f6_8 #[.val (.ref a), .val (.double wB), .second, .val (.double dB), .second, .val (.double wB), .second, .val (.double (FP.ddiv dB (4611686018427387904 : UInt64))), .second, .unset, .unset, .unset, .unset, .unset, .unset, .unset, .unset, .unset] rfl ?_
  refine wiconst C X0 f6_10 (0 : Int32) rfl ?_
  refine own_foldI (z := (Int32.ofNat 0)) rfl ?_
  refine wistore C X0 f6_11 #[.val (.ref a), .val (.double wB), .second, .val (.double dB), .second, .val (.double wB), .second, .val (.double (FP.ddiv dB (4611686018427387904 : UInt64))), .second, .val (.int (Int32.ofNat 0)), .unset, .unset, .unset, .unset, .unset, .unset, .unset, .unset] rfl ?_
  refine wiconst C X0 f6_13 (0 : Int32) rfl ?_
  refine own_foldI (z := (Int32.ofNat 0)) rfl ?_
  refine wistore C X0 f6_14 #[.val (.ref a), .val (.double wB), .second, .val (.double dB), .second, .val (.double wB), .second, .val (.double (FP.ddiv dB (4611686018427387904 : UInt64))), .second, .val (.int (Int32.ofNat 0)), .val (.int (Int32.ofNat 0)), .unset, .unset, .unset, .unset, .unset, .unset, .unset] rfl ?_
  refine waloadN C X0 f6_16 rfl rfl ?_
  refine wget C X0 (host := "") (Or.inl (tw_19 hw)) Via.refl e0 Fld_1 f6_17 ?_
  intro T1 X1 e1
  refine wiconst C X1 f6_20 (1 : Int32) rfl ?_
  refine wisub C X1 f6_21 ?_
  refine own_foldI (z := (Int32.ofNat (k - 1))) (own_k1 _ (by omega) hk1) ?_
  refine wistore C X1 f6_22 #[.val (.ref a), .val (.double wB), .second, .val (.double dB), .second, .val (.double wB), .second, .val (.double (FP.ddiv dB (4611686018427387904 : UInt64))), .second, .val (.int (Int32.ofNat 0)), .val (.int (Int32.ofNat 0)), .val (.int (Int32.ofNat (k - 1))), .unset, .unset, .unset, .unset, .unset, .unset] rfl ?_
  refine Go.mono (own_loop C hw ge_5 ne_6 ne_7 hP hmono hk4 3 X1 (by decide) (by decide) e1 N0 (Keep.refl h0 [pl]) Fld_0 Fld_2 Arv_3 Arv_4 hL ⟨hl.1, own_H_div hl.2.1 (by have := hl.2.2; omega), hl.2.2⟩ (Or.inl ⟨rfl, rfl, rfl, rfl, rfl, rfl⟩) (Nat.zero_le _) (by omega) (by omega) (by omega)) ?_
  intro v9 h9 L9 q9
  obtain ⟨r1, r2, r3, ls', W', D', r4, r5, r6⟩ := q9
  exact ⟨ls', W', D', r1, r2, r3, r4, r5, fun i hi => r6.1 i (Nat.zero_le _) (by omega)⟩
theorem own_tn {t : UInt64} (h : ∃ q : Int, FP.Core.DInt q t ∧ 0 ≤ q ∧ q ≤ 65536) : Jvm.Free.Fl.NoNaN64 (FP.ddiv t (4611686018427387904 : UInt64)) := by obtain ⟨q, h1, h2, h3⟩ := h; exact own_H_nn (own_H_div h1 (by omega))
theorem f3_0 : Dec prog_12_method_2_code 0 (.aload_n 0) 1 1 := ⟨by decide +kernel, rfl⟩
theorem f3_1 : Dec prog_12_method_2_code 1 (.iload_n 2) 1 2 := ⟨by decide +kernel, rfl⟩
theorem f3_2 : Dec prog_12_method_2_code 2 (.putfield 16) 3 5 := ⟨by decide +kernel, rfl⟩
theorem f3_5 : Dec prog_12_method_2_code 5 (.iconst 0) 1 6 := ⟨by decide +kernel, rfl⟩
theorem f3_6 : Dec prog_12_method_2_code 6 (.istore_n 3) 1 7 := ⟨by decide +kernel, rfl⟩
theorem f3_7 : Dec prog_12_method_2_code 7 (.iload_n 3) 1 8 := ⟨by decide +kernel, rfl⟩
theorem f3_8 : Dec prog_12_method_2_code 8 (.iload_n 2) 1 9 := ⟨by decide +kernel, rfl⟩
theorem f3_9 : DecJ prog_12_method_2_code 9 (.if_icmp .ge 22) 22 31 12 := ⟨by decide +kernel, by decide, by decide, rfl⟩
theorem f3_12 : Dec prog_12_method_2_code 12 (.aload_n 0) 1 13 := ⟨by decide +kernel, rfl⟩
theorem f3_13 : Dec prog_12_method_2_code 13 (.getfield 7) 3 16 := ⟨by decide +kernel, rfl⟩
theorem f3_16 : Dec prog_12_method_2_code 16 (.iload_n 3) 1 17 := ⟨by decide +kernel, rfl⟩
theorem f3_17 : Dec prog_12_method_2_code 17 (.aload_n 1) 1 18 := ⟨by decide +kernel, rfl⟩
theorem f3_18 : Dec prog_12_method_2_code 18 (.iload_n 3) 1 19 := ⟨by decide +kernel, rfl⟩
theorem f3_19 : Dec prog_12_method_2_code 19 (.daload) 1 20 := ⟨by decide +kernel, rfl⟩
theorem f3_20 : Dec prog_12_method_2_code 20 (.ldc2_w 20) 3 23 := ⟨by decide +kernel, rfl⟩
theorem f3_23 : Dec prog_12_method_2_code 23 (.ddiv) 1 24 := ⟨by decide +kernel, rfl⟩
theorem f3_24 : Dec prog_12_method_2_code 24 (.dastore) 1 25 := ⟨by decide +kernel, rfl⟩
theorem f3_25 : Dec prog_12_method_2_code 25 (.iinc 3 1) 3 28 := ⟨by decide +kernel, rfl⟩
theorem f3_28 : DecJ prog_12_method_2_code 28 (.goto (-21)) (-21) 7 31 := ⟨by decide +kernel, by decide, by decide, rfl⟩
theorem f3_31 : Dec prog_12_method_2_code 31 (.iconst 0) 1 32 := ⟨by decide +kernel, rfl⟩
theorem f3_32 : Dec prog_12_method_2_code 32 (.istore_n 3) 1 33 := ⟨by decide +kernel, rfl⟩
theorem f3_33 : Dec prog_12_method_2_code 33 (.iload_n 3) 1 34 := ⟨by decide +kernel, rfl⟩
theorem f3_34 : Dec prog_12_method_2_code 34 (.iconst 2) 1 35 := ⟨by decide +kernel, rfl⟩
theorem f3_35 : Dec prog_12_method_2_code 35 (.iconst 2) 1 36 := ⟨by decide +kernel, rfl⟩
theorem f3_36 : Dec prog_12_method_2_code 36 (.iload_n 2) 1 37 := ⟨by decide +kernel, rfl⟩
theorem f3_37 : Dec prog_12_method_2_code 37 (.imul) 1 38 := ⟨by decide +kernel, rfl⟩
theorem f3_38 : Dec prog_12_method_2_code 38 (.iconst 1) 1 39 := ⟨by decide +kernel, rfl⟩
theorem f3_39 : Dec prog_12_method_2_code 39 (.isub) 1 40 := ⟨by decide +kernel, rfl⟩
theorem f3_40 : Dec prog_12_method_2_code 40 (.imul) 1 41 := ⟨by decide +kernel, rfl⟩
theorem f3_41 : DecJ prog_12_method_2_code 41 (.if_icmp .ge 16) 16 57 44 := ⟨by decide +kernel, by decide, by decide, rfl⟩
theorem f3_44 : Dec prog_12_method_2_code 44 (.aload_n 0) 1 45 := ⟨by decide +kernel, rfl⟩
theorem f3_45 : Dec prog_12_method_2_code 45 (.getfield 13) 3 48 := ⟨by decide +kernel, rfl⟩
theorem f3_48 : Dec prog_12_method_2_code 48 (.iload_n 3) 1 49 := ⟨by decide +kernel, rfl⟩
theorem f3_49 : Dec prog_12_method_2_code 49 (.dconst 0) 1 50 := ⟨by decide +kernel, rfl⟩
theorem f3_50 : Dec prog_12_method_2_code 50 (.dastore) 1 51 := ⟨by decide +kernel, rfl⟩
theorem f3_51 : Dec prog_12_method_2_code 51 (.iinc 3 1) 3 54 := ⟨by decide +kernel, rfl⟩
theorem f3_54 : DecJ prog_12_method_2_code 54 (.goto (-21)) (-21) 33 57 := ⟨by decide +kernel, by decide, by decide, rfl⟩
theorem f3_57 : Dec prog_12_method_2_code 57 (.return_) 1 58 := ⟨by decide +kernel, rfl⟩
theorem pn_3 : plainFor (⟨"com/example/arbor_center/arborcenter/objective/UpperEnvelope", "reset", "([DI)V"⟩ : MethodName) = true := plainFor_of_name (show plainName "com/example/arbor_center/arborcenter/objective/UpperEnvelope" = true by first | (simp [plainName, overriddenIn]; done) | decide +kernel)
theorem ef_3_1 (m : MethodId) (a : Addr) (pt : Addr) (cn : Int32) : entryFrame m #[(.ref a), (.ref pt), (.int cn)] 4 = mkF m 0 #[.val (.ref a), .val (.ref pt), .val (.int cn), .unset] [] := by first | (simp [entryFrame, mkF, argsToLocals, Value.category]; done) | rfl
def Q3_1 (Z : State) (a : Addr) (pt : Addr) (cn : Int32) (ph : Addr) (pl : Addr) (k1 : ClassId) (k2 : ClassId) (k3 : ClassId) (oc : Int32) (ls : List Value) (qq0 : UInt64) (qq1 : UInt64) (qq2 : UInt64) (qq3 : UInt64) (t0 : UInt64) (t1 : UInt64) (t2 : UInt64) (t3 : UInt64) (h0 : Heap) (n0 : Nat) (v9 : Option Value) (h9 : Heap) (L9 : List Loc) : Prop := v9 = none ∧ Fr n0 L9 ∧ Keep h0 h9 [a, ph, pl] ∧ Exa Z h9 a "com/example/arbor_center/arborcenter/objective/UpperEnvelope" ∧ Fld Z h9 a "com/example/arbor_center/arborcenter/objective/UpperEnvelope" "halfPoints" "[D" (.ref ph) ∧ Fld Z h9 a "com/example/arbor_center/arborcenter/objective/UpperEnvelope" "count" "I" (.int (1 : Int32)) ∧ Fld Z h9 a "com/example/arbor_center/arborcenter/objective/UpperEnvelope" "lines" "[D" (.ref pl) ∧ Arv Z h9 ph k1 .double (4 : Int32) [(.double (FP.ddiv t0 (4611686018427387904 : UInt64))), (.double qq1), (.double qq2), (.double qq3)] (.double (0 : UInt64)) ∧ Arv Z h9 pl k2 .double (14 : Int32) ((ls.set 0 (.double FP.dconst0)).set 1 (.double FP.dconst0)) (.double (0 : UInt64))
set_option maxRecDepth 65536 in
set_option maxHeartbeats 40000000 in
theorem rm3_1 (l : Launch) (Z : State) (a0 : Array Value) (hw : ∀ d ∈ tables_1, d.before a0 Z = true) (ws : List Jvm.Cond) (a : Addr) (pt : Addr) (cn : Int32) (ph : Addr) (pl : Addr) (k1 : ClassId) (k2 : ClassId) (k3 : ClassId) (oc : Int32) (ls : List Value) (qq0 : UInt64) (qq1 : UInt64) (qq2 : UInt64) (qq3 : UInt64) (t0 : UInt64) (t1 : UInt64) (t2 : UInt64) (t3 : UInt64) (h0 : Heap) (n0 : Nat) (Z0 : n0 ≤ h0.size) (Exa_0 : Exa Z h0 a "com/example/arbor_center/arborcenter/objective/UpperEnvelope") (Fld_1 : Fld Z h0 a "com/example/arbor_center/arborcenter/objective/UpperEnvelope" "halfPoints" "[D" (.ref ph)) (Fld_2 : Fld Z h0 a "com/example/arbor_center/arborcenter/objective/UpperEnvelope" "count" "I" (.int oc)) (Fld_3 : Fld Z h0 a "com/example/arbor_center/arborcenter/objective/UpperEnvelope" "lines" "[D" (.ref pl)) (Arv_4 : Arv Z h0 ph k1 .double (4 : Int32) [(.double qq0), (.double qq1), (.double qq2), (.double qq3)] (.double (0 : UInt64))) (Arv_5 : Arv Z h0 pl k2 .double (14 : Int32) ls (.double (0 : UInt64))) (Arv_6 : Arv Z h0 pt k3 .double (4 : Int32) [(.double t0), (.double t1), (.double t2), (.double t3)] (.double (0 : UInt64))) (ge_7 : n0 ≤ a) (ge_8 : n0 ≤ ph) (ge_9 : n0 ≤ pl) (ne_10 : a ≠ ph) (ne_11 : a ≠ pl) (ne_12 : ph ≠ pl) (ne_13 : pt ≠ a) (ne_14 : pt ≠ ph) (ne_15 : pt ≠ pl) (hcn : (cn = (1 : Int32))) (hlen : (ls.length = 14)) (ht0 : (∃ q : Int, FP.Core.DInt q t0 ∧ 0 ≤ q ∧ q ≤ 65536)) :
    MetFree l (⟨"com/example/arbor_center/arborcenter/objective/UpperEnvelope", "reset", "([DI)V"⟩ : MethodName) (head1 (Jvm.Cond.code (⟨"com/example/arbor_center/arborcenter/objective/UpperEnvelope", "reset", "([DI)V"⟩ : MethodName) prog_12_method_2_code 4 none :: ws) ({ frames := 0, cells := 0, slots := 0, locals := 0 } : Room)) (fun A9 U9 => A9 = #[(.ref a), (.ref pt), (.int cn)] ∧ Z.Warmed39 U9.vm ∧ U9.heap = h0) (fun _ _ _ _ _ => True) (fun _ U9 o9 V9 => ∃ v9 L9, o9 = .returned v9 ∧ (Q3_1 Z a pt cn ph pl k1 k2 k3 oc ls qq0 qq1 qq2 qq3 t0 t1 t2 t3 h0 n0) v9 V9.heap L9 ∧ FrameEnd U9 o9 V9 L9 ({ frames := 0, cells := 0, slots := 0, locals := 0 } : Room).cells ({ frames := 0, cells := 0, slots := 0, locals := 0 } : Room).slots) := by
  refine met_of (Q := (Q3_1 Z a pt cn ph pl k1 k2 k3 oc ls qq0 qq1 qq2 qq3 t0 t1 t2 t3 h0 n0)) pn_3 ?_
  intro p e s m below meth c T0 C X0 e0
  have N0 := Fr.nil n0
  refine Go.cast (ef_3_1 m a pt cn) ?_
  subst hcn
  refine waloadN C X0 f3_0 rfl rfl ?_
  refine wiloadN C X0 f3_1 rfl ?_
  refine wput C X0 (host := "") (Or.inl (tw_19 hw)) Via.refl e0 Fld_2 Exa_0 (Or.inl (tw_20 hw)) (tw_2 hw) (ty := .int) (by decide) rfl rfl f3_2 ?_
  intro T1 h1 X1 e1 W1
  have Fw1 := Fld_2.same W1
  have N1 := Fr.snoc X1 N0 ge_7
  refine wiconst C X1 f3_5 (0 : Int32) rfl ?_
  refine wistoreN C X1 f3_6 #[.val (.ref a), .val (.ref pt), .val (.int (1 : Int32)), .val (.int (0 : Int32))] rfl ?_
  refine wiloadN C X1 f3_7 rfl ?_
  refine wiloadN C X1 f3_8 rfl ?_
  refine wicmp_ge C X1 f3_9 ?_ (fun q => absurd (by decide : ((0 : Int32) < (1 : Int32))) q)
  intro _
  refine waloadN C X1 f3_12 rfl rfl ?_
  have q2 := (Fld_1.other W1 (Or.inr (slot_ne (Or.inr (tw_11 hw)) (Or.inl (tw_20 hw)) (by decide) (t := (.array .double)) (t' := .int) (by decide) (by decide))))
  refine wget C X1 (host := "") (Or.inl (tw_10 hw)) Via.refl e1 q2 f3_13 ?_
  intro T3 X3 e3
  refine wiloadN C X3 f3_16 rfl ?_
  refine waloadN C X3 f3_17 rfl rfl ?_
  refine wiloadN C X3 f3_18 rfl ?_
  refine wdaload C X3 e3 (Arv_6.other W1 ne_13) f3_19 ⟨by decide, by decide⟩ (i := 0) rfl (v := t0) rfl ?_
  refine wldc2D C X3 (tw_21 hw) f3_20 ?_
  refine wddiv C X3 f3_23 (v := (FP.ddiv t0 (4611686018427387904 : UInt64))) rfl (own_tn ht0) ?_
  refine wdastore C X3 e3 (Arv_4.other W1 (Ne.symm ne_10)) f3_24 ⟨by decide, by decide⟩ 0 rfl (show (0 : Nat) < 4 by decide) [(.double (FP.ddiv t0 (4611686018427387904 : UInt64))), (.double qq1), (.double qq2), (.double qq3)] rfl ?_
  intro T4 h4 sl4 w4 X4 e4 W4 V4
  have N4 := Fr.snoc X4 N1 ge_8
  refine wiinc C X4 f3_25 (1 : Int32) (by decide) rfl #[.val (.ref a), .val (.ref pt), .val (.int (1 : Int32)), .val (.int (1 : Int32))] rfl ?_
  refine wgoto C X4 f3_28 ?_
  refine wiloadN C X4 f3_7 rfl ?_
  refine wiloadN C X4 f3_8 rfl ?_
  refine wicmp_ge C X4 f3_9 (fun q => absurd q (by decide : ¬ ((1 : Int32) < (1 : Int32)))) ?_
  intro _
  refine wiconst C X4 f3_31 (0 : Int32) rfl ?_
  refine wistoreN C X4 f3_32 #[.val (.ref a), .val (.ref pt), .val (.int (1 : Int32)), .val (.int (0 : Int32))] rfl ?_
  refine wiloadN C X4 f3_33 rfl ?_
  refine wiconst C X4 f3_34 (2 : Int32) rfl ?_
  refine wiconst C X4 f3_35 (2 : Int32) rfl ?_
  refine wiloadN C X4 f3_36 rfl ?_
  refine wimul C X4 f3_37 ?_
  refine own_foldI (z := (2 : Int32)) (by decide) ?_
  refine wiconst C X4 f3_38 (1 : Int32) rfl ?_
  refine wisub C X4 f3_39 ?_
  refine own_foldI (z := (1 : Int32)) (by decide) ?_
  refine wimul C X4 f3_40 ?_
  refine own_foldI (z := (2 : Int32)) (by decide) ?_
  refine wicmp_ge C X4 f3_41 ?_ (fun q => absurd (by decide : ((0 : Int32) < (2 : Int32))) q)
  intro _
  refine waloadN C X4 f3_44 rfl rfl ?_
  have q5 := ((Fld_3.other W1 (Or.inr (slot_ne (Or.inr (tw_13 hw)) (Or.inl (tw_20 hw)) (by decide) (t := (.array .double)) (t' := .int) (by decide) (by decide)))).other W4 (Or.inl ne_10))
  refine wget C X4 (host := "") (Or.inl (tw_12 hw)) Via.refl e4 q5 f3_45 ?_
  intro T6 X6 e6
  refine wiloadN C X6 f3_48 rfl ?_
  refine wdconst0 C X6 f3_49 ?_
  refine wdastore C X6 e6 ((Arv_5.other W1 (Ne.symm ne_11)).other W4 (Ne.symm ne_12)) f3_50 ⟨by decide, by decide⟩ 0 rfl (by rw [hlen]; decide) (ls.set 0 (.double FP.dconst0)) rfl ?_
  intro T7 h7 sl7 w7 X7 e7 W7 V7
  have N7 := Fr.snoc X7 N4 ge_9
  refine wiinc C X7 f3_51 (1 : Int32) (by decide) rfl #[.val (.ref a), .val (.ref pt), .val (.int (1 : Int32)), .val (.int (1 : Int32))] rfl ?_
  refine wgoto C X7 f3_54 ?_
  refine wiloadN C X7 f3_33 rfl ?_
  refine wiconst C X7 f3_34 (2 : Int32) rfl ?_
  refine wiconst C X7 f3_35 (2 : Int32) rfl ?_
  refine wiloadN C X7 f3_36 rfl ?_
  refine wimul C X7 f3_37 ?_
  refine own_foldI (z := (2 : Int32)) (by decide) ?_
  refine wiconst C X7 f3_38 (1 : Int32) rfl ?_
  refine wisub C X7 f3_39 ?_
  refine own_foldI (z := (1 : Int32)) (by decide) ?_
  refine wimul C X7 f3_40 ?_
  refine own_foldI (z := (2 : Int32)) (by decide) ?_
  refine wicmp_ge C X7 f3_41 ?_ (fun q => absurd (by decide : ((1 : Int32) < (2 : Int32))) q)
  intro _
  refine waloadN C X7 f3_44 rfl rfl ?_
  refine wget C X7 (host := "") (Or.inl (tw_12 hw)) Via.refl e7 (q5.other W7 (Or.inl ne_11)) f3_45 ?_
  intro T8 X8 e8
  refine wiloadN C X8 f3_48 rfl ?_
  refine wdconst0 C X8 f3_49 ?_
  refine wdastore C X8 e8 V7 f3_50 ⟨by decide, by decide⟩ 1 rfl (by rw [List.length_set, hlen]; decide) ((ls.set 0 (.double FP.dconst0)).set 1 (.double FP.dconst0)) rfl ?_
  intro T9 h9 sl9 w9 X9 e9 W9 V9
  have N9 := Fr.snoc X9 N7 ge_9
  refine wiinc C X9 f3_51 (2 : Int32) (by decide) rfl #[.val (.ref a), .val (.ref pt), .val (.int (1 : Int32)), .val (.int (2 : Int32))] rfl ?_
  refine wgoto C X9 f3_54 ?_
  refine wiloadN C X9 f3_33 rfl ?_
  refine wiconst C X9 f3_34 (2 : Int32) rfl ?_
  refine wiconst C X9 f3_35 (2 : Int32) rfl ?_
  refine wiloadN C X9 f3_36 rfl ?_
  refine wimul C X9 f3_37 ?_
  refine own_foldI (z := (2 : Int32)) (by decide) ?_
  refine wiconst C X9 f3_38 (1 : Int32) rfl ?_
  refine wisub C X9 f3_39 ?_
  refine own_foldI (z := (1 : Int32)) (by decide) ?_
  refine wimul C X9 f3_40 ?_
  refine own_foldI (z := (2 : Int32)) (by decide) ?_
  refine wicmp_ge C X9 f3_41 (fun q => absurd q (by decide : ¬ ((2 : Int32) < (2 : Int32)))) ?_
  intro _
  refine wret C X9 f3_57 rfl (by decide) (by decide) ?_
  rw [e9]
  have q10 := (((((Keep.refl h0 [a, ph, pl]).wr W1 (Or.inl (List.mem_of_getElem? (i := 0) rfl))).wr W4 (Or.inl (List.mem_of_getElem? (i := 1) rfl))).wr W7 (Or.inl (List.mem_of_getElem? (i := 2) rfl))).wr W9 (Or.inl (List.mem_of_getElem? (i := 2) rfl)))
  have q11 := (((q2.other W4 (Or.inl ne_10)).other W7 (Or.inl ne_11)).other W9 (Or.inl ne_11))
  have q12 := (((Fw1.other W4 (Or.inl ne_10)).other W7 (Or.inl ne_11)).other W9 (Or.inl ne_11))
  exact ⟨rfl, N9, q10, ((((Exa_0.wr W1).wr W4).wr W7).wr W9), q11, q12, ((q5.other W7 (Or.inl ne_11)).other W9 (Or.inl ne_11)), ((V4.other W7 ne_12).other W9 ne_12), V9⟩
theorem ef_3_2 (m : MethodId) (a : Addr) (pt : Addr) (cn : Int32) : entryFrame m #[(.ref a), (.ref pt), (.int cn)] 4 = mkF m 0 #[.val (.ref a), .val (.ref pt), .val (.int cn), .unset] [] := by first | (simp [entryFrame, mkF, argsToLocals, Value.category]; done) | rfl
def Q3_2 (Z : State) (a : Addr) (pt : Addr) (cn : Int32) (ph : Addr) (pl : Addr) (k1 : ClassId) (k2 : ClassId) (k3 : ClassId) (oc : Int32) (ls : List Value) (qq0 : UInt64) (qq1 : UInt64) (qq2 : UInt64) (qq3 : UInt64) (t0 : UInt64) (t1 : UInt64) (t2 : UInt64) (t3 : UInt64) (h0 : Heap) (n0 : Nat) (v9 : Option Value) (h9 : Heap) (L9 : List Loc) : Prop := v9 = none ∧ Fr n0 L9 ∧ Keep h0 h9 [a, ph, pl] ∧ Exa Z h9 a "com/example/arbor_center/arborcenter/objective/UpperEnvelope" ∧ Fld Z h9 a "com/example/arbor_center/arborcenter/objective/UpperEnvelope" "halfPoints" "[D" (.ref ph) ∧ Fld Z h9 a "com/example/arbor_center/arborcenter/objective/UpperEnvelope" "count" "I" (.int (2 : Int32)) ∧ Fld Z h9 a "com/example/arbor_center/arborcenter/objective/UpperEnvelope" "lines" "[D" (.ref pl) ∧ Arv Z h9 ph k1 .double (4 : Int32) [(.double (FP.ddiv t0 (4611686018427387904 : UInt64))), (.double (FP.ddiv t1 (4611686018427387904 : UInt64))), (.double qq2), (.double qq3)] (.double (0 : UInt64)) ∧ Arv Z h9 pl k2 .double (14 : Int32) ((((((ls.set 0 (.double FP.dconst0)).set 1 (.double FP.dconst0)).set 2 (.double FP.dconst0)).set 3 (.double FP.dconst0)).set 4 (.double FP.dconst0)).set 5 (.double FP.dconst0)) (.double (0 : UInt64))
set_option maxRecDepth 65536 in
set_option maxHeartbeats 40000000 in
theorem rm3_2 (l : Launch) (Z : State) (a0 : Array Value) (hw : ∀ d ∈ tables_1, d.before a0 Z = true) (ws : List Jvm.Cond) (a : Addr) (pt : Addr) (cn : Int32) (ph : Addr) (pl : Addr) (k1 : ClassId) (k2 : ClassId) (k3 : ClassId) (oc : Int32) (ls : List Value) (qq0 : UInt64) (qq1 : UInt64) (qq2 : UInt64) (qq3 : UInt64) (t0 : UInt64) (t1 : UInt64) (t2 : UInt64) (t3 : UInt64) (h0 : Heap) (n0 : Nat) (Z0 : n0 ≤ h0.size) (Exa_0 : Exa Z h0 a "com/example/arbor_center/arborcenter/objective/UpperEnvelope") (Fld_1 : Fld Z h0 a "com/example/arbor_center/arborcenter/objective/UpperEnvelope" "halfPoints" "[D" (.ref ph)) (Fld_2 : Fld Z h0 a "com/example/arbor_center/arborcenter/objective/UpperEnvelope" "count" "I" (.int oc)) (Fld_3 : Fld Z h0 a "com/example/arbor_center/arborcenter/objective/UpperEnvelope" "lines" "[D" (.ref pl)) (Arv_4 : Arv Z h0 ph k1 .double (4 : Int32) [(.double qq0), (.double qq1), (.double qq2), (.double qq3)] (.double (0 : UInt64))) (Arv_5 : Arv Z h0 pl k2 .double (14 : Int32) ls (.double (0 : UInt64))) (Arv_6 : Arv Z h0 pt k3 .double (4 : Int32) [(.double t0), (.double t1), (.double t2), (.double t3)] (.double (0 : UInt64))) (ge_7 : n0 ≤ a) (ge_8 : n0 ≤ ph) (ge_9 : n0 ≤ pl) (ne_10 : a ≠ ph) (ne_11 : a ≠ pl) (ne_12 : ph ≠ pl) (ne_13 : pt ≠ a) (ne_14 : pt ≠ ph) (ne_15 : pt ≠ pl) (hcn : (cn = (2 : Int32))) (hlen : (ls.length = 14)) (ht0 : (∃ q : Int, FP.Core.DInt q t0 ∧ 0 ≤ q ∧ q ≤ 65536)) (ht1 : (∃ q : Int, FP.Core.DInt q t1 ∧ 0 ≤ q ∧ q ≤ 65536)) :
    MetFree l (⟨"com/example/arbor_center/arborcenter/objective/UpperEnvelope", "reset", "([DI)V"⟩ : MethodName) (head1 (Jvm.Cond.code (⟨"com/example/arbor_center/arborcenter/objective/UpperEnvelope", "reset", "([DI)V"⟩ : MethodName) prog_12_method_2_code 4 none :: ws) ({ frames := 0, cells := 0, slots := 0, locals := 0 } : Room)) (fun A9 U9 => A9 = #[(.ref a), (.ref pt), (.int cn)] ∧ Z.Warmed39 U9.vm ∧ U9.heap = h0) (fun _ _ _ _ _ => True) (fun _ U9 o9 V9 => ∃ v9 L9, o9 = .returned v9 ∧ (Q3_2 Z a pt cn ph pl k1 k2 k3 oc ls qq0 qq1 qq2 qq3 t0 t1 t2 t3 h0 n0) v9 V9.heap L9 ∧ FrameEnd U9 o9 V9 L9 ({ frames := 0, cells := 0, slots := 0, locals := 0 } : Room).cells ({ frames := 0, cells := 0, slots := 0, locals := 0 } : Room).slots) := by
  refine met_of (Q := (Q3_2 Z a pt cn ph pl k1 k2 k3 oc ls qq0 qq1 qq2 qq3 t0 t1 t2 t3 h0 n0)) pn_3 ?_
  intro p e s m below meth c T0 C X0 e0
  have N0 := Fr.nil n0
  refine Go.cast (ef_3_2 m a pt cn) ?_
  subst hcn
  refine waloadN C X0 f3_0 rfl rfl ?_
  refine wiloadN C X0 f3_1 rfl ?_
  refine wput C X0 (host := "") (Or.inl (tw_19 hw)) Via.refl e0 Fld_2 Exa_0 (Or.inl (tw_20 hw)) (tw_2 hw) (ty := .int) (by decide) rfl rfl f3_2 ?_
  intro T1 h1 X1 e1 W1
  have Fw1 := Fld_2.same W1
  have N1 := Fr.snoc X1 N0 ge_7
  refine wiconst C X1 f3_5 (0 : Int32) rfl ?_
  refine wistoreN C X1 f3_6 #[.val (.ref a), .val (.ref pt), .val (.int (2 : Int32)), .val (.int (0 : Int32))] rfl ?_
  refine wiloadN C X1 f3_7 rfl ?_
  refine wiloadN C X1 f3_8 rfl ?_
  refine wicmp_ge C X1 f3_9 ?_ (fun q => absurd (by decide : ((0 : Int32) < (2 : Int32))) q)
  intro _
  refine waloadN C X1 f3_12 rfl rfl ?_
  have q2 := (Fld_1.other W1 (Or.inr (slot_ne (Or.inr (tw_11 hw)) (Or.inl (tw_20 hw)) (by decide) (t := (.array .double)) (t' := .int) (by decide) (by decide))))
  refine wget C X1 (host := "") (Or.inl (tw_10 hw)) Via.refl e1 q2 f3_13 ?_
  intro T3 X3 e3
  refine wiloadN C X3 f3_16 rfl ?_
  refine waloadN C X3 f3_17 rfl rfl ?_
  refine wiloadN C X3 f3_18 rfl ?_
  refine wdaload C X3 e3 (Arv_6.other W1 ne_13) f3_19 ⟨by decide, by decide⟩ (i := 0) rfl (v := t0) rfl ?_
  refine wldc2D C X3 (tw_21 hw) f3_20 ?_
  refine wddiv C X3 f3_23 (v := (FP.ddiv t0 (4611686018427387904 : UInt64))) rfl (own_tn ht0) ?_
  refine wdastore C X3 e3 (Arv_4.other W1 (Ne.symm ne_10)) f3_24 ⟨by decide, by decide⟩ 0 rfl (show (0 : Nat) < 4 by decide) [(.double (FP.ddiv t0 (4611686018427387904 : UInt64))), (.double qq1), (.double qq2), (.double qq3)] rfl ?_
  intro T4 h4 sl4 w4 X4 e4 W4 V4
  have N4 := Fr.snoc X4 N1 ge_8
  refine wiinc C X4 f3_25 (1 : Int32) (by decide) rfl #[.val (.ref a), .val (.ref pt), .val (.int (2 : Int32)), .val (.int (1 : Int32))] rfl ?_
  refine wgoto C X4 f3_28 ?_
  refine wiloadN C X4 f3_7 rfl ?_
  refine wiloadN C X4 f3_8 rfl ?_
  refine wicmp_ge C X4 f3_9 ?_ (fun q => absurd (by decide : ((1 : Int32) < (2 : Int32))) q)
  intro _
  refine waloadN C X4 f3_12 rfl rfl ?_
  refine wget C X4 (host := "") (Or.inl (tw_10 hw)) Via.refl e4 (q2.other W4 (Or.inl ne_10)) f3_13 ?_
  intro T5 X5 e5
  refine wiloadN C X5 f3_16 rfl ?_
  refine waloadN C X5 f3_17 rfl rfl ?_
  refine wiloadN C X5 f3_18 rfl ?_
  refine wdaload C X5 e5 ((Arv_6.other W1 ne_13).other W4 ne_14) f3_19 ⟨by decide, by decide⟩ (i := 1) rfl (v := t1) rfl ?_
  refine wldc2D C X5 (tw_21 hw) f3_20 ?_
  refine wddiv C X5 f3_23 (v := (FP.ddiv t1 (4611686018427387904 : UInt64))) rfl (own_tn ht1) ?_
  refine wdastore C X5 e5 V4 f3_24 ⟨by decide, by decide⟩ 1 rfl (show (1 : Nat) < 4 by decide) [(.double (FP.ddiv t0 (4611686018427387904 : UInt64))), (.double (FP.ddiv t1 (4611686018427387904 : UInt64))), (.double qq2), (.double qq3)] rfl ?_
  intro T6 h6 sl6 w6 X6 e6 W6 V6
  have N6 := Fr.snoc X6 N4 ge_8
  refine wiinc C X6 f3_25 (2 : Int32) (by decide) rfl #[.val (.ref a), .val (.ref pt), .val (.int (2 : Int32)), .val (.int (2 : Int32))] rfl ?_
  refine wgoto C X6 f3_28 ?_
  refine wiloadN C X6 f3_7 rfl ?_
  refine wiloadN C X6 f3_8 rfl ?_
  refine wicmp_ge C X6 f3_9 (fun q => absurd q (by decide : ¬ ((2 : Int32) < (2 : Int32)))) ?_
  intro _
  refine wiconst C X6 f3_31 (0 : Int32) rfl ?_
  refine wistoreN C X6 f3_32 #[.val (.ref a), .val (.ref pt), .val (.int (2 : Int32)), .val (.int (0 : Int32))] rfl ?_
  refine wiloadN C X6 f3_33 rfl ?_
  refine wiconst C X6 f3_34 (2 : Int32) rfl ?_
  refine wiconst C X6 f3_35 (2 : Int32) rfl ?_
  refine wiloadN C X6 f3_36 rfl ?_
  refine wimul C X6 f3_37 ?_
  refine own_foldI (z := (4 : Int32)) (by decide) ?_
  refine wiconst C X6 f3_38 (1 : Int32) rfl ?_
  refine wisub C X6 f3_39 ?_
  refine own_foldI (z := (3 : Int32)) (by decide) ?_
  refine wimul C X6 f3_40 ?_
  refine own_foldI (z := (6 : Int32)) (by decide) ?_
  refine wicmp_ge C X6 f3_41 ?_ (fun q => absurd (by decide : ((0 : Int32) < (6 : Int32))) q)
  intro _
  refine waloadN C X6 f3_44 rfl rfl ?_
  have q7 := (((Fld_3.other W1 (Or.inr (slot_ne (Or.inr (tw_13 hw)) (Or.inl (tw_20 hw)) (by decide) (t := (.array .double)) (t' := .int) (by decide) (by decide)))).other W4 (Or.inl ne_10)).other W6 (Or.inl ne_10))
  refine wget C X6 (host := "") (Or.inl (tw_12 hw)) Via.refl e6 q7 f3_45 ?_
  intro T8 X8 e8
  refine wiloadN C X8 f3_48 rfl ?_
  refine wdconst0 C X8 f3_49 ?_
  have q9 := (((Arv_5.other W1 (Ne.symm ne_11)).other W4 (Ne.symm ne_12)).other W6 (Ne.symm ne_12))
  refine wdastore C X8 e8 q9 f3_50 ⟨by decide, by decide⟩ 0 rfl (by rw [hlen]; decide) (ls.set 0 (.double FP.dconst0)) rfl ?_
  intro T10 h10 sl10 w10 X10 e10 W10 V10
  have N10 := Fr.snoc X10 N6 ge_9
  refine wiinc C X10 f3_51 (1 : Int32) (by decide) rfl #[.val (.ref a), .val (.ref pt), .val (.int (2 : Int32)), .val (.int (1 : Int32))] rfl ?_
  refine wgoto C X10 f3_54 ?_
  refine wiloadN C X10 f3_33 rfl ?_
  refine wiconst C X10 f3_34 (2 : Int32) rfl ?_
  refine wiconst C X10 f3_35 (2 : Int32) rfl ?_
  refine wiloadN C X10 f3_36 rfl ?_
  refine wimul C X10 f3_37 ?_
  refine own_foldI (z := (4 : Int32)) (by decide) ?_
  refine wiconst C X10 f3_38 (1 : Int32) rfl ?_
  refine wisub C X10 f3_39 ?_
  refine own_foldI (z := (3 : Int32)) (by decide) ?_
  refine wimul C X10 f3_40 ?_
  refine own_foldI (z := (6 : Int32)) (by decide) ?_
  refine wicmp_ge C X10 f3_41 ?_ (fun q => absurd (by decide : ((1 : Int32) < (6 : Int32))) q)
  intro _
  refine waloadN C X10 f3_44 rfl rfl ?_
  refine wget C X10 (host := "") (Or.inl (tw_12 hw)) Via.refl e10 (q7.other W10 (Or.inl ne_11)) f3_45 ?_
  intro T11 X11 e11
  refine wiloadN C X11 f3_48 rfl ?_
  refine wdconst0 C X11 f3_49 ?_
  refine wdastore C X11 e11 V10 f3_50 ⟨by decide, by decide⟩ 1 rfl (by rw [List.length_set, hlen]; decide) ((ls.set 0 (.double FP.dconst0)).set 1 (.double FP.dconst0)) rfl ?_
  intro T12 h12 sl12 w12 X12 e12 W12 V12
  have N12 := Fr.snoc X12 N10 ge_9
  refine wiinc C X12 f3_51 (2 : Int32) (by decide) rfl #[.val (.ref a), .val (.ref pt), .val (.int (2 : Int32)), .val (.int (2 : Int32))] rfl ?_
  refine wgoto C X12 f3_54 ?_
  refine wiloadN C X12 f3_33 rfl ?_
  refine wiconst C X12 f3_34 (2 : Int32) rfl ?_
  refine wiconst C X12 f3_35 (2 : Int32) rfl ?_
  refine wiloadN C X12 f3_36 rfl ?_
  refine wimul C X12 f3_37 ?_
  refine own_foldI (z := (4 : Int32)) (by decide) ?_
  refine wiconst C X12 f3_38 (1 : Int32) rfl ?_
  refine wisub C X12 f3_39 ?_
  refine own_foldI (z := (3 : Int32)) (by decide) ?_
  refine wimul C X12 f3_40 ?_
  refine own_foldI (z := (6 : Int32)) (by decide) ?_
  refine wicmp_ge C X12 f3_41 ?_ (fun q => absurd (by decide : ((2 : Int32) < (6 : Int32))) q)
  intro _
  refine waloadN C X12 f3_44 rfl rfl ?_
  refine wget C X12 (host := "") (Or.inl (tw_12 hw)) Via.refl e12 ((q7.other W10 (Or.inl ne_11)).other W12 (Or.inl ne_11)) f3_45 ?_
  intro T13 X13 e13
  refine wiloadN C X13 f3_48 rfl ?_
  refine wdconst0 C X13 f3_49 ?_
  refine wdastore C X13 e13 V12 f3_50 ⟨by decide, by decide⟩ 2 rfl (by rw [List.length_set, List.length_set, hlen]; decide) (((ls.set 0 (.double FP.dconst0)).set 1 (.double FP.dconst0)).set 2 (.double FP.dconst0)) rfl ?_
  intro T14 h14 sl14 w14 X14 e14 W14 V14
  have N14 := Fr.snoc X14 N12 ge_9
  refine wiinc C X14 f3_51 (3 : Int32) (by decide) rfl #[.val (.ref a), .val (.ref pt), .val (.int (2 : Int32)), .val (.int (3 : Int32))] rfl ?_
  refine wgoto C X14 f3_54 ?_
  refine wiloadN C X14 f3_33 rfl ?_
  refine wiconst C X14 f3_34 (2 : Int32) rfl ?_
  refine wiconst C X14 f3_35 (2 : Int32) rfl ?_
  refine wiloadN C X14 f3_36 rfl ?_
  refine wimul C X14 f3_37 ?_
  refine own_foldI (z := (4 : Int32)) (by decide) ?_
  refine wiconst C X14 f3_38 (1 : Int32) rfl ?_
  refine wisub C X14 f3_39 ?_
  refine own_foldI (z := (3 : Int32)) (by decide) ?_
  refine wimul C X14 f3_40 ?_
  refine own_foldI (z := (6 : Int32)) (by decide) ?_
  refine wicmp_ge C X14 f3_41 ?_ (fun q => absurd (by decide : ((3 : Int32) < (6 : Int32))) q)
  intro _
  refine waloadN C X14 f3_44 rfl rfl ?_
  have q15 := (((q7.other W10 (Or.inl ne_11)).other W12 (Or.inl ne_11)).other W14 (Or.inl ne_11))
  refine wget C X14 (host := "") (Or.inl (tw_12 hw)) Via.refl e14 q15 f3_45 ?_
  intro T16 X16 e16
  refine wiloadN C X16 f3_48 rfl ?_
  refine wdconst0 C X16 f3_49 ?_
  refine wdastore C X16 e16 V14 f3_50 ⟨by decide, by decide⟩ 3 rfl (by rw [List.length_set, List.length_set, List.length_set, hlen]; decide) ((((ls.set 0 (.double FP.dconst0)).set 1 (.double FP.dconst0)).set 2 (.double FP.dconst0)).set 3 (.double FP.dconst0)) rfl ?_
  intro T17 h17 sl17 w17 X17 e17 W17 V17
  have N17 := Fr.snoc X17 N14 ge_9
  refine wiinc C X17 f3_51 (4 : Int32) (by decide) rfl #[.val (.ref a), .val (.ref pt), .val (.int (2 : Int32)), .val (.int (4 : Int32))] rfl ?_
  refine wgoto C X17 f3_54 ?_
  refine wiloadN C X17 f3_33 rfl ?_
  refine wiconst C X17 f3_34 (2 : Int32) rfl ?_
  refine wiconst C X17 f3_35 (2 : Int32) rfl ?_
  refine wiloadN C X17 f3_36 rfl ?_
  refine wimul C X17 f3_37 ?_
  refine own_foldI (z := (4 : Int32)) (by decide) ?_
  refine wiconst C X17 f3_38 (1 : Int32) rfl ?_
  refine wisub C X17 f3_39 ?_
  refine own_foldI (z := (3 : Int32)) (by decide) ?_
  refine wimul C X17 f3_40 ?_
  refine own_foldI (z := (6 : Int32)) (by decide) ?_
  refine wicmp_ge C X17 f3_41 ?_ (fun q => absurd (by decide : ((4 : Int32) < (6 : Int32))) q)
  intro _
  refine waloadN C X17 f3_44 rfl rfl ?_
  refine wget C X17 (host := "") (Or.inl (tw_12 hw)) Via.refl e17 (q15.other W17 (Or.inl ne_11)) f3_45 ?_
  intro T18 X18 e18
  refine wiloadN C X18 f3_48 rfl ?_
  refine wdconst0 C X18 f3_49 ?_
  refine wdastore C X18 e18 V17 f3_50 ⟨by decide, by decide⟩ 4 rfl (by rw [List.length_set, List.length_set, List.length_set, List.length_set, hlen]; decide) (((((ls.set 0 (.double FP.dconst0)).set 1 (.double FP.dconst0)).set 2 (.double FP.dconst0)).set 3 (.double FP.dconst0)).set 4 (.double FP.dconst0)) rfl ?_
  intro T19 h19 sl19 w19 X19 e19 W19 V19
  have N19 := Fr.snoc X19 N17 ge_9
  refine wiinc C X19 f3_51 (5 : Int32) (by decide) rfl #[.val (.ref a), .val (.ref pt), .val (.int (2 : Int32)), .val (.int (5 : Int32))] rfl ?_
  refine wgoto C X19 f3_54 ?_
  refine wiloadN C X19 f3_33 rfl ?_
  refine wiconst C X19 f3_34 (2 : Int32) rfl ?_
  refine wiconst C X19 f3_35 (2 : Int32) rfl ?_
  refine wiloadN C X19 f3_36 rfl ?_
  refine wimul C X19 f3_37 ?_
  refine own_foldI (z := (4 : Int32)) (by decide) ?_
  refine wiconst C X19 f3_38 (1 : Int32) rfl ?_
  refine wisub C X19 f3_39 ?_
  refine own_foldI (z := (3 : Int32)) (by decide) ?_
  refine wimul C X19 f3_40 ?_
  refine own_foldI (z := (6 : Int32)) (by decide) ?_
  refine wicmp_ge C X19 f3_41 ?_ (fun q => absurd (by decide : ((5 : Int32) < (6 : Int32))) q)
  intro _
  refine waloadN C X19 f3_44 rfl rfl ?_
  refine wget C X19 (host := "") (Or.inl (tw_12 hw)) Via.refl e19 ((q15.other W17 (Or.inl ne_11)).other W19 (Or.inl ne_11)) f3_45 ?_
  intro T20 X20 e20
  refine wiloadN C X20 f3_48 rfl ?_
  refine wdconst0 C X20 f3_49 ?_
  refine wdastore C X20 e20 V19 f3_50 ⟨by decide, by decide⟩ 5 rfl (by rw [List.length_set, List.length_set, List.length_set, List.length_set, List.length_set, hlen]; decide) ((((((ls.set 0 (.double FP.dconst0)).set 1 (.double FP.dconst0)).set 2 (.double FP.dconst0)).set 3 (.double FP.dconst0)).set 4 (.double FP.dconst0)).set 5 (.double FP.dconst0)) rfl ?_
  intro T21 h21 sl21 w21 X21 e21 W21 V21
  have N21 := Fr.snoc X21 N19 ge_9
  refine wiinc C X21 f3_51 (6 : Int32) (by decide) rfl #[.val (.ref a), .val (.ref pt), .val (.int (2 : Int32)), .val (.int (6 : Int32))] rfl ?_
  refine wgoto C X21 f3_54 ?_
  refine wiloadN C X21 f3_33 rfl ?_
  refine wiconst C X21 f3_34 (2 : Int32) rfl ?_
  refine wiconst C X21 f3_35 (2 : Int32) rfl ?_
  refine wiloadN C X21 f3_36 rfl ?_
  refine wimul C X21 f3_37 ?_
  refine own_foldI (z := (4 : Int32)) (by decide) ?_
  refine wiconst C X21 f3_38 (1 : Int32) rfl ?_
  refine wisub C X21 f3_39 ?_
  refine own_foldI (z := (3 : Int32)) (by decide) ?_
  refine wimul C X21 f3_40 ?_
  refine own_foldI (z := (6 : Int32)) (by decide) ?_
  refine wicmp_ge C X21 f3_41 (fun q => absurd q (by decide : ¬ ((6 : Int32) < (6 : Int32)))) ?_
  intro _
  refine wret C X21 f3_57 rfl (by decide) (by decide) ?_
  rw [e21]
  have q22 := ((((((((((Keep.refl h0 [a, ph, pl]).wr W1 (Or.inl (List.mem_of_getElem? (i := 0) rfl))).wr W4 (Or.inl (List.mem_of_getElem? (i := 1) rfl))).wr W6 (Or.inl (List.mem_of_getElem? (i := 1) rfl))).wr W10 (Or.inl (List.mem_of_getElem? (i := 2) rfl))).wr W12 (Or.inl (List.mem_of_getElem? (i := 2) rfl))).wr W14 (Or.inl (List.mem_of_getElem? (i := 2) rfl))).wr W17 (Or.inl (List.mem_of_getElem? (i := 2) rfl))).wr W19 (Or.inl (List.mem_of_getElem? (i := 2) rfl))).wr W21 (Or.inl (List.mem_of_getElem? (i := 2) rfl)))
  have q23 := (((((((((Exa_0.wr W1).wr W4).wr W6).wr W10).wr W12).wr W14).wr W17).wr W19).wr W21)
  have q24 := ((((((((q2.other W4 (Or.inl ne_10)).other W6 (Or.inl ne_10)).other W10 (Or.inl ne_11)).other W12 (Or.inl ne_11)).other W14 (Or.inl ne_11)).other W17 (Or.inl ne_11)).other W19 (Or.inl ne_11)).other W21 (Or.inl ne_11))
  have q25 := ((((((((Fw1.other W4 (Or.inl ne_10)).other W6 (Or.inl ne_10)).other W10 (Or.inl ne_11)).other W12 (Or.inl ne_11)).other W14 (Or.inl ne_11)).other W17 (Or.inl ne_11)).other W19 (Or.inl ne_11)).other W21 (Or.inl ne_11))
  have q26 := (((q15.other W17 (Or.inl ne_11)).other W19 (Or.inl ne_11)).other W21 (Or.inl ne_11))
  have q27 := ((((((V6.other W10 ne_12).other W12 ne_12).other W14 ne_12).other W17 ne_12).other W19 ne_12).other W21 ne_12)
  exact ⟨rfl, N21, q22, q23, q24, q25, q26, q27, V21⟩
theorem ef_3_3 (m : MethodId) (a : Addr) (pt : Addr) (cn : Int32) : entryFrame m #[(.ref a), (.ref pt), (.int cn)] 4 = mkF m 0 #[.val (.ref a), .val (.ref pt), .val (.int cn), .unset] [] := by first | (simp [entryFrame, mkF, argsToLocals, Value.category]; done) | rfl
def Q3_3 (Z : State) (a : Addr) (pt : Addr) (cn : Int32) (ph : Addr) (pl : Addr) (k1 : ClassId) (k2 : ClassId) (k3 : ClassId) (oc : Int32) (ls : List Value) (qq0 : UInt64) (qq1 : UInt64) (qq2 : UInt64) (qq3 : UInt64) (t0 : UInt64) (t1 : UInt64) (t2 : UInt64) (t3 : UInt64) (h0 : Heap) (n0 : Nat) (v9 : Option Value) (h9 : Heap) (L9 : List Loc) : Prop := v9 = none ∧ Fr n0 L9 ∧ Keep h0 h9 [a, ph, pl] ∧ Exa Z h9 a "com/example/arbor_center/arborcenter/objective/UpperEnvelope" ∧ Fld Z h9 a "com/example/arbor_center/arborcenter/objective/UpperEnvelope" "halfPoints" "[D" (.ref ph) ∧ Fld Z h9 a "com/example/arbor_center/arborcenter/objective/UpperEnvelope" "count" "I" (.int (3 : Int32)) ∧ Fld Z h9 a "com/example/arbor_center/arborcenter/objective/UpperEnvelope" "lines" "[D" (.ref pl) ∧ Arv Z h9 ph k1 .double (4 : Int32) [(.double (FP.ddiv t0 (4611686018427387904 : UInt64))), (.double (FP.ddiv t1 (4611686018427387904 : UInt64))), (.double (FP.ddiv t2 (4611686018427387904 : UInt64))), (.double qq3)] (.double (0 : UInt64)) ∧ Arv Z h9 pl k2 .double (14 : Int32) ((((((((((ls.set 0 (.double FP.dconst0)).set 1 (.double FP.dconst0)).set 2 (.double FP.dconst0)).set 3 (.double FP.dconst0)).set 4 (.double FP.dconst0)).set 5 (.double FP.dconst0)).set 6 (.double FP.dconst0)).set 7 (.double FP.dconst0)).set 8 (.double FP.dconst0)).set 9 (.double FP.dconst0)) (.double (0 : UInt64))
set_option maxRecDepth 65536 in
set_option maxHeartbeats 40000000 in
theorem rm3_3 (l : Launch) (Z : State) (a0 : Array Value) (hw : ∀ d ∈ tables_1, d.before a0 Z = true) (ws : List Jvm.Cond) (a : Addr) (pt : Addr) (cn : Int32) (ph : Addr) (pl : Addr) (k1 : ClassId) (k2 : ClassId) (k3 : ClassId) (oc : Int32) (ls : List Value) (qq0 : UInt64) (qq1 : UInt64) (qq2 : UInt64) (qq3 : UInt64) (t0 : UInt64) (t1 : UInt64) (t2 : UInt64) (t3 : UInt64) (h0 : Heap) (n0 : Nat) (Z0 : n0 ≤ h0.size) (Exa_0 : Exa Z h0 a "com/example/arbor_center/arborcenter/objective/UpperEnvelope") (Fld_1 : Fld Z h0 a "com/example/arbor_center/arborcenter/objective/UpperEnvelope" "halfPoints" "[D" (.ref ph)) (Fld_2 : Fld Z h0 a "com/example/arbor_center/arborcenter/objective/UpperEnvelope" "count" "I" (.int oc)) (Fld_3 : Fld Z h0 a "com/example/arbor_center/arborcenter/objective/UpperEnvelope" "lines" "[D" (.ref pl)) (Arv_4 : Arv Z h0 ph k1 .double (4 : Int32) [(.double qq0), (.double qq1), (.double qq2), (.double qq3)] (.double (0 : UInt64))) (Arv_5 : Arv Z h0 pl k2 .double (14 : Int32) ls (.double (0 : UInt64))) (Arv_6 : Arv Z h0 pt k3 .double (4 : Int32) [(.double t0), (.double t1), (.double t2), (.double t3)] (.double (0 : UInt64))) (ge_7 : n0 ≤ a) (ge_8 : n0 ≤ ph) (ge_9 : n0 ≤ pl) (ne_10 : a ≠ ph) (ne_11 : a ≠ pl) (ne_12 : ph ≠ pl) (ne_13 : pt ≠ a) (ne_14 : pt ≠ ph) (ne_15 : pt ≠ pl) (hcn : (cn = (3 : Int32))) (hlen : (ls.length = 14)) (ht0 : (∃ q : Int, FP.Core.DInt q t0 ∧ 0 ≤ q ∧ q ≤ 65536)) (ht1 : (∃ q : Int, FP.Core.DInt q t1 ∧ 0 ≤ q ∧ q ≤ 65536)) (ht2 : (∃ q : Int, FP.Core.DInt q t2 ∧ 0 ≤ q ∧ q ≤ 65536)) :
    MetFree l (⟨"com/example/arbor_center/arborcenter/objective/UpperEnvelope", "reset", "([DI)V"⟩ : MethodName) (head1 (Jvm.Cond.code (⟨"com/example/arbor_center/arborcenter/objective/UpperEnvelope", "reset", "([DI)V"⟩ : MethodName) prog_12_method_2_code 4 none :: ws) ({ frames := 0, cells := 0, slots := 0, locals := 0 } : Room)) (fun A9 U9 => A9 = #[(.ref a), (.ref pt), (.int cn)] ∧ Z.Warmed39 U9.vm ∧ U9.heap = h0) (fun _ _ _ _ _ => True) (fun _ U9 o9 V9 => ∃ v9 L9, o9 = .returned v9 ∧ (Q3_3 Z a pt cn ph pl k1 k2 k3 oc ls qq0 qq1 qq2 qq3 t0 t1 t2 t3 h0 n0) v9 V9.heap L9 ∧ FrameEnd U9 o9 V9 L9 ({ frames := 0, cells := 0, slots := 0, locals := 0 } : Room).cells ({ frames := 0, cells := 0, slots := 0, locals := 0 } : Room).slots) := by
  refine met_of (Q := (Q3_3 Z a pt cn ph pl k1 k2 k3 oc ls qq0 qq1 qq2 qq3 t0 t1 t2 t3 h0 n0)) pn_3 ?_
  intro p e s m below meth c T0 C X0 e0
  have N0 := Fr.nil n0
  refine Go.cast (ef_3_3 m a pt cn) ?_
  subst hcn
  refine waloadN C X0 f3_0 rfl rfl ?_
  refine wiloadN C X0 f3_1 rfl ?_
  refine wput C X0 (host := "") (Or.inl (tw_19 hw)) Via.refl e0 Fld_2 Exa_0 (Or.inl (tw_20 hw)) (tw_2 hw) (ty := .int) (by decide) rfl rfl f3_2 ?_
  intro T1 h1 X1 e1 W1
  have Fw1 := Fld_2.same W1
  have N1 := Fr.snoc X1 N0 ge_7
  refine wiconst C X1 f3_5 (0 : Int32) rfl ?_
  refine wistoreN C X1 f3_6 #[.val (.ref a), .val (.ref pt), .val (.int (3 : Int32)), .val (.int (0 : Int32))] rfl ?_
  refine wiloadN C X1 f3_7 rfl ?_
  refine wiloadN C X1 f3_8 rfl ?_
  refine wicmp_ge C X1 f3_9 ?_ (fun q => absurd (by decide : ((0 : Int32) < (3 : Int32))) q)
  intro _
  refine waloadN C X1 f3_12 rfl rfl ?_
  have q2 := (Fld_1.other W1 (Or.inr (slot_ne (Or.inr (tw_11 hw)) (Or.inl (tw_20 hw)) (by decide) (t := (.array .double)) (t' := .int) (by decide) (by decide))))
  refine wget C X1 (host := "") (Or.inl (tw_10 hw)) Via.refl e1 q2 f3_13 ?_
  intro T3 X3 e3
  refine wiloadN C X3 f3_16 rfl ?_
  refine waloadN C X3 f3_17 rfl rfl ?_
  refine wiloadN C X3 f3_18 rfl ?_
  refine wdaload C X3 e3 (Arv_6.other W1 ne_13) f3_19 ⟨by decide, by decide⟩ (i := 0) rfl (v := t0) rfl ?_
  refine wldc2D C X3 (tw_21 hw) f3_20 ?_
  refine wddiv C X3 f3_23 (v := (FP.ddiv t0 (4611686018427387904 : UInt64))) rfl (own_tn ht0) ?_
  refine wdastore C X3 e3 (Arv_4.other W1 (Ne.symm ne_10)) f3_24 ⟨by decide, by decide⟩ 0 rfl (show (0 : Nat) < 4 by decide) [(.double (FP.ddiv t0 (4611686018427387904 : UInt64))), (.double qq1), (.double qq2), (.double qq3)] rfl ?_
  intro T4 h4 sl4 w4 X4 e4 W4 V4
  have N4 := Fr.snoc X4 N1 ge_8
  refine wiinc C X4 f3_25 (1 : Int32) (by decide) rfl #[.val (.ref a), .val (.ref pt), .val (.int (3 : Int32)), .val (.int (1 : Int32))] rfl ?_
  refine wgoto C X4 f3_28 ?_
  refine wiloadN C X4 f3_7 rfl ?_
  refine wiloadN C X4 f3_8 rfl ?_
  refine wicmp_ge C X4 f3_9 ?_ (fun q => absurd (by decide : ((1 : Int32) < (3 : Int32))) q)
  intro _
  refine waloadN C X4 f3_12 rfl rfl ?_
  refine wget C X4 (host := "") (Or.inl (tw_10 hw)) Via.refl e4 (q2.other W4 (Or.inl ne_10)) f3_13 ?_
  intro T5 X5 e5
  refine wiloadN C X5 f3_16 rfl ?_
  refine waloadN C X5 f3_17 rfl rfl ?_
  refine wiloadN C X5 f3_18 rfl ?_
  refine wdaload C X5 e5 ((Arv_6.other W1 ne_13).other W4 ne_14) f3_19 ⟨by decide, by decide⟩ (i := 1) rfl (v := t1) rfl ?_
  refine wldc2D C X5 (tw_21 hw) f3_20 ?_
  refine wddiv C X5 f3_23 (v := (FP.ddiv t1 (4611686018427387904 : UInt64))) rfl (own_tn ht1) ?_
  refine wdastore C X5 e5 V4 f3_24 ⟨by decide, by decide⟩ 1 rfl (show (1 : Nat) < 4 by decide) [(.double (FP.ddiv t0 (4611686018427387904 : UInt64))), (.double (FP.ddiv t1 (4611686018427387904 : UInt64))), (.double qq2), (.double qq3)] rfl ?_
  intro T6 h6 sl6 w6 X6 e6 W6 V6
  have N6 := Fr.snoc X6 N4 ge_8
  refine wiinc C X6 f3_25 (2 : Int32) (by decide) rfl #[.val (.ref a), .val (.ref pt), .val (.int (3 : Int32)), .val (.int (2 : Int32))] rfl ?_
  refine wgoto C X6 f3_28 ?_
  refine wiloadN C X6 f3_7 rfl ?_
  refine wiloadN C X6 f3_8 rfl ?_
  refine wicmp_ge C X6 f3_9 ?_ (fun q => absurd (by decide : ((2 : Int32) < (3 : Int32))) q)
  intro _
  refine waloadN C X6 f3_12 rfl rfl ?_
  refine wget C X6 (host := "") (Or.inl (tw_10 hw)) Via.refl e6 ((q2.other W4 (Or.inl ne_10)).other W6 (Or.inl ne_10)) f3_13 ?_
  intro T7 X7 e7
  refine wiloadN C X7 f3_16 rfl ?_
  refine waloadN C X7 f3_17 rfl rfl ?_
  refine wiloadN C X7 f3_18 rfl ?_
  refine wdaload C X7 e7 (((Arv_6.other W1 ne_13).other W4 ne_14).other W6 ne_14) f3_19 ⟨by decide, by decide⟩ (i := 2) rfl (v := t2) rfl ?_
  refine wldc2D C X7 (tw_21 hw) f3_20 ?_
  refine wddiv C X7 f3_23 (v := (FP.ddiv t2 (4611686018427387904 : UInt64))) rfl (own_tn ht2) ?_
  refine wdastore C X7 e7 V6 f3_24 ⟨by decide, by decide⟩ 2 rfl (show (2 : Nat) < 4 by decide) [(.double (FP.ddiv t0 (4611686018427387904 : UInt64))), (.double (FP.ddiv t1 (4611686018427387904 : UInt64))), (.double (FP.ddiv t2 (4611686018427387904 : UInt64))), (.double qq3)] rfl ?_
  intro T8 h8 sl8 w8 X8 e8 W8 V8
  have N8 := Fr.snoc X8 N6 ge_8
  refine wiinc C X8 f3_25 (3 : Int32) (by decide) rfl #[.val (.ref a), .val (.ref pt), .val (.int (3 : Int32)), .val (.int (3 : Int32))] rfl ?_
  refine wgoto C X8 f3_28 ?_
  refine wiloadN C X8 f3_7 rfl ?_
  refine wiloadN C X8 f3_8 rfl ?_
  refine wicmp_ge C X8 f3_9 (fun q => absurd q (by decide : ¬ ((3 : Int32) < (3 : Int32)))) ?_
  intro _
  refine wiconst C X8 f3_31 (0 : Int32) rfl ?_
  refine wistoreN C X8 f3_32 #[.val (.ref a), .val (.ref pt), .val (.int (3 : Int32)), .val (.int (0 : Int32))] rfl ?_
  refine wiloadN C X8 f3_33 rfl ?_
  refine wiconst C X8 f3_34 (2 : Int32) rfl ?_
  refine wiconst C X8 f3_35 (2 : Int32) rfl ?_
  refine wiloadN C X8 f3_36 rfl ?_
  refine wimul C X8 f3_37 ?_
  refine own_foldI (z := (6 : Int32)) (by decide) ?_
  refine wiconst C X8 f3_38 (1 : Int32) rfl ?_
  refine wisub C X8 f3_39 ?_
  refine own_foldI (z := (5 : Int32)) (by decide) ?_
  refine wimul C X8 f3_40 ?_
  refine own_foldI (z := (10 : Int32)) (by decide) ?_
  refine wicmp_ge C X8 f3_41 ?_ (fun q => absurd (by decide : ((0 : Int32) < (10 : Int32))) q)
  intro _
  refine waloadN C X8 f3_44 rfl rfl ?_
  have q9 := ((((Fld_3.other W1 (Or.inr (slot_ne (Or.inr (tw_13 hw)) (Or.inl (tw_20 hw)) (by decide) (t := (.array .double)) (t' := .int) (by decide) (by decide)))).other W4 (Or.inl ne_10)).other W6 (Or.inl ne_10)).other W8 (Or.inl ne_10))
  refine wget C X8 (host := "") (Or.inl (tw_12 hw)) Via.refl e8 q9 f3_45 ?_
  intro T10 X10 e10
  refine wiloadN C X10 f3_48 rfl ?_
  refine wdconst0 C X10 f3_49 ?_
  have q11 := ((((Arv_5.other W1 (Ne.symm ne_11)).other W4 (Ne.symm ne_12)).other W6 (Ne.symm ne_12)).other W8 (Ne.symm ne_12))
  refine wdastore C X10 e10 q11 f3_50 ⟨by decide, by decide⟩ 0 rfl (by rw [hlen]; decide) (ls.set 0 (.double FP.dconst0)) rfl ?_
  intro T12 h12 sl12 w12 X12 e12 W12 V12
  have N12 := Fr.snoc X12 N8 ge_9
  refine wiinc C X12 f3_51 (1 : Int32) (by decide) rfl #[.val (.ref a), .val (.ref pt), .val (.int (3 : Int32)), .val (.int (1 : Int32))] rfl ?_
  refine wgoto C X12 f3_54 ?_
  refine wiloadN C X12 f3_33 rfl ?_
  refine wiconst C X12 f3_34 (2 : Int32) rfl ?_
  refine wiconst C X12 f3_35 (2 : Int32) rfl ?_
  refine wiloadN C X12 f3_36 rfl ?_
  refine wimul C X12 f3_37 ?_
  refine own_foldI (z := (6 : Int32)) (by decide) ?_
  refine wiconst C X12 f3_38 (1 : Int32) rfl ?_
  refine wisub C X12 f3_39 ?_
  refine own_foldI (z := (5 : Int32)) (by decide) ?_
  refine wimul C X12 f3_40 ?_
  refine own_foldI (z := (10 : Int32)) (by decide) ?_
  refine wicmp_ge C X12 f3_41 ?_ (fun q => absurd (by decide : ((1 : Int32) < (10 : Int32))) q)
  intro _
  refine waloadN C X12 f3_44 rfl rfl ?_
  refine wget C X12 (host := "") (Or.inl (tw_12 hw)) Via.refl e12 (q9.other W12 (Or.inl ne_11)) f3_45 ?_
  intro T13 X13 e13
  refine wiloadN C X13 f3_48 rfl ?_
  refine wdconst0 C X13 f3_49 ?_
  refine wdastore C X13 e13 V12 f3_50 ⟨by decide, by decide⟩ 1 rfl (by rw [List.length_set, hlen]; decide) ((ls.set 0 (.double FP.dconst0)).set 1 (.double FP.dconst0)) rfl ?_
  intro T14 h14 sl14 w14 X14 e14 W14 V14
  have N14 := Fr.snoc X14 N12 ge_9
  refine wiinc C X14 f3_51 (2 : Int32) (by decide) rfl #[.val (.ref a), .val (.ref pt), .val (.int (3 : Int32)), .val (.int (2 : Int32))] rfl ?_
  refine wgoto C X14 f3_54 ?_
  refine wiloadN C X14 f3_33 rfl ?_
  refine wiconst C X14 f3_34 (2 : Int32) rfl ?_
  refine wiconst C X14 f3_35 (2 : Int32) rfl ?_
  refine wiloadN C X14 f3_36 rfl ?_
  refine wimul C X14 f3_37 ?_
  refine own_foldI (z := (6 : Int32)) (by decide) ?_
  refine wiconst C X14 f3_38 (1 : Int32) rfl ?_
  refine wisub C X14 f3_39 ?_
  refine own_foldI (z := (5 : Int32)) (by decide) ?_
  refine wimul C X14 f3_40 ?_
  refine own_foldI (z := (10 : Int32)) (by decide) ?_
  refine wicmp_ge C X14 f3_41 ?_ (fun q => absurd (by decide : ((2 : Int32) < (10 : Int32))) q)
  intro _
  refine waloadN C X14 f3_44 rfl rfl ?_
  refine wget C X14 (host := "") (Or.inl (tw_12 hw)) Via.refl e14 ((q9.other W12 (Or.inl ne_11)).other W14 (Or.inl ne_11)) f3_45 ?_
  intro T15 X15 e15
  refine wiloadN C X15 f3_48 rfl ?_
  refine wdconst0 C X15 f3_49 ?_
  refine wdastore C X15 e15 V14 f3_50 ⟨by decide, by decide⟩ 2 rfl (by rw [List.length_set, List.length_set, hlen]; decide) (((ls.set 0 (.double FP.dconst0)).set 1 (.double FP.dconst0)).set 2 (.double FP.dconst0)) rfl ?_
  intro T16 h16 sl16 w16 X16 e16 W16 V16
  have N16 := Fr.snoc X16 N14 ge_9
  refine wiinc C X16 f3_51 (3 : Int32) (by decide) rfl #[.val (.ref a), .val (.ref pt), .val (.int (3 : Int32)), .val (.int (3 : Int32))] rfl ?_
  refine wgoto C X16 f3_54 ?_
  refine wiloadN C X16 f3_33 rfl ?_
  refine wiconst C X16 f3_34 (2 : Int32) rfl ?_
  refine wiconst C X16 f3_35 (2 : Int32) rfl ?_
  refine wiloadN C X16 f3_36 rfl ?_
  refine wimul C X16 f3_37 ?_
  refine own_foldI (z := (6 : Int32)) (by decide) ?_
  refine wiconst C X16 f3_38 (1 : Int32) rfl ?_
  refine wisub C X16 f3_39 ?_
  refine own_foldI (z := (5 : Int32)) (by decide) ?_
  refine wimul C X16 f3_40 ?_
  refine own_foldI (z := (10 : Int32)) (by decide) ?_
  refine wicmp_ge C X16 f3_41 ?_ (fun q => absurd (by decide : ((3 : Int32) < (10 : Int32))) q)
  intro _
  refine waloadN C X16 f3_44 rfl rfl ?_
  have q17 := (((q9.other W12 (Or.inl ne_11)).other W14 (Or.inl ne_11)).other W16 (Or.inl ne_11))
  refine wget C X16 (host := "") (Or.inl (tw_12 hw)) Via.refl e16 q17 f3_45 ?_
  intro T18 X18 e18
  refine wiloadN C X18 f3_48 rfl ?_
  refine wdconst0 C X18 f3_49 ?_
  refine wdastore C X18 e18 V16 f3_50 ⟨by decide, by decide⟩ 3 rfl (by rw [List.length_set, List.length_set, List.length_set, hlen]; decide) ((((ls.set 0 (.double FP.dconst0)).set 1 (.double FP.dconst0)).set 2 (.double FP.dconst0)).set 3 (.double FP.dconst0)) rfl ?_
  intro T19 h19 sl19 w19 X19 e19 W19 V19
  have N19 := Fr.snoc X19 N16 ge_9
  refine wiinc C X19 f3_51 (4 : Int32) (by decide) rfl #[.val (.ref a), .val (.ref pt), .val (.int (3 : Int32)), .val (.int (4 : Int32))] rfl ?_
  refine wgoto C X19 f3_54 ?_
  refine wiloadN C X19 f3_33 rfl ?_
  refine wiconst C X19 f3_34 (2 : Int32) rfl ?_
  refine wiconst C X19 f3_35 (2 : Int32) rfl ?_
  refine wiloadN C X19 f3_36 rfl ?_
  refine wimul C X19 f3_37 ?_
  refine own_foldI (z := (6 : Int32)) (by decide) ?_
  refine wiconst C X19 f3_38 (1 : Int32) rfl ?_
  refine wisub C X19 f3_39 ?_
  refine own_foldI (z := (5 : Int32)) (by decide) ?_
  refine wimul C X19 f3_40 ?_
  refine own_foldI (z := (10 : Int32)) (by decide) ?_
  refine wicmp_ge C X19 f3_41 ?_ (fun q => absurd (by decide : ((4 : Int32) < (10 : Int32))) q)
  intro _
  refine waloadN C X19 f3_44 rfl rfl ?_
  refine wget C X19 (host := "") (Or.inl (tw_12 hw)) Via.refl e19 (q17.other W19 (Or.inl ne_11)) f3_45 ?_
  intro T20 X20 e20
  refine wiloadN C X20 f3_48 rfl ?_
  refine wdconst0 C X20 f3_49 ?_
  refine wdastore C X20 e20 V19 f3_50 ⟨by decide, by decide⟩ 4 rfl (by rw [List.length_set, List.length_set, List.length_set, List.length_set, hlen]; decide) (((((ls.set 0 (.double FP.dconst0)).set 1 (.double FP.dconst0)).set 2 (.double FP.dconst0)).set 3 (.double FP.dconst0)).set 4 (.double FP.dconst0)) rfl ?_
  intro T21 h21 sl21 w21 X21 e21 W21 V21
  have N21 := Fr.snoc X21 N19 ge_9
  refine wiinc C X21 f3_51 (5 : Int32) (by decide) rfl #[.val (.ref a), .val (.ref pt), .val (.int (3 : Int32)), .val (.int (5 : Int32))] rfl ?_
  refine wgoto C X21 f3_54 ?_
  refine wiloadN C X21 f3_33 rfl ?_
  refine wiconst C X21 f3_34 (2 : Int32) rfl ?_
  refine wiconst C X21 f3_35 (2 : Int32) rfl ?_
  refine wiloadN C X21 f3_36 rfl ?_
  refine wimul C X21 f3_37 ?_
  refine own_foldI (z := (6 : Int32)) (by decide) ?_
  refine wiconst C X21 f3_38 (1 : Int32) rfl ?_
  refine wisub C X21 f3_39 ?_
  refine own_foldI (z := (5 : Int32)) (by decide) ?_
  refine wimul C X21 f3_40 ?_
  refine own_foldI (z := (10 : Int32)) (by decide) ?_
  refine wicmp_ge C X21 f3_41 ?_ (fun q => absurd (by decide : ((5 : Int32) < (10 : Int32))) q)
  intro _
  refine waloadN C X21 f3_44 rfl rfl ?_
  refine wget C X21 (host := "") (Or.inl (tw_12 hw)) Via.refl e21 ((q17.other W19 (Or.inl ne_11)).other W21 (Or.inl ne_11)) f3_45 ?_
  intro T22 X22 e22
  refine wiloadN C X22 f3_48 rfl ?_
  refine wdconst0 C X22 f3_49 ?_
  refine wdastore C X22 e22 V21 f3_50 ⟨by decide, by decide⟩ 5 rfl (by rw [List.length_set, List.length_set, List.length_set, List.length_set, List.length_set, hlen]; decide) ((((((ls.set 0 (.double FP.dconst0)).set 1 (.double FP.dconst0)).set 2 (.double FP.dconst0)).set 3 (.double FP.dconst0)).set 4 (.double FP.dconst0)).set 5 (.double FP.dconst0)) rfl ?_
  intro T23 h23 sl23 w23 X23 e23 W23 V23
  have N23 := Fr.snoc X23 N21 ge_9
  refine wiinc C X23 f3_51 (6 : Int32) (by decide) rfl #[.val (.ref a), .val (.ref pt), .val (.int (3 : Int32)), .val (.int (6 : Int32))] rfl ?_
  refine wgoto C X23 f3_54 ?_
  refine wiloadN C X23 f3_33 rfl ?_
  refine wiconst C X23 f3_34 (2 : Int32) rfl ?_
  refine wiconst C X23 f3_35 (2 : Int32) rfl ?_
  refine wiloadN C X23 f3_36 rfl ?_
  refine wimul C X23 f3_37 ?_
  refine own_foldI (z := (6 : Int32)) (by decide) ?_
  refine wiconst C X23 f3_38 (1 : Int32) rfl ?_
  refine wisub C X23 f3_39 ?_
  refine own_foldI (z := (5 : Int32)) (by decide) ?_
  refine wimul C X23 f3_40 ?_
  refine own_foldI (z := (10 : Int32)) (by decide) ?_
  refine wicmp_ge C X23 f3_41 ?_ (fun q => absurd (by decide : ((6 : Int32) < (10 : Int32))) q)
  intro _
  refine waloadN C X23 f3_44 rfl rfl ?_
  have q24 := (((q17.other W19 (Or.inl ne_11)).other W21 (Or.inl ne_11)).other W23 (Or.inl ne_11))
  refine wget C X23 (host := "") (Or.inl (tw_12 hw)) Via.refl e23 q24 f3_45 ?_
  intro T25 X25 e25
  refine wiloadN C X25 f3_48 rfl ?_
  refine wdconst0 C X25 f3_49 ?_
  refine wdastore C X25 e25 V23 f3_50 ⟨by decide, by decide⟩ 6 rfl (by rw [List.length_set, List.length_set, List.length_set, List.length_set, List.length_set, List.length_set, hlen]; decide) (((((((ls.set 0 (.double FP.dconst0)).set 1 (.double FP.dconst0)).set 2 (.double FP.dconst0)).set 3 (.double FP.dconst0)).set 4 (.double FP.dconst0)).set 5 (.double FP.dconst0)).set 6 (.double FP.dconst0)) rfl ?_
  intro T26 h26 sl26 w26 X26 e26 W26 V26
  have N26 := Fr.snoc X26 N23 ge_9
  refine wiinc C X26 f3_51 (7 : Int32) (by decide) rfl #[.val (.ref a), .val (.ref pt), .val (.int (3 : Int32)), .val (.int (7 : Int32))] rfl ?_
  refine wgoto C X26 f3_54 ?_
  refine wiloadN C X26 f3_33 rfl ?_
  refine wiconst C X26 f3_34 (2 : Int32) rfl ?_
  refine wiconst C X26 f3_35 (2 : Int32) rfl ?_
  refine wiloadN C X26 f3_36 rfl ?_
  refine wimul C X26 f3_37 ?_
  refine own_foldI (z := (6 : Int32)) (by decide) ?_
  refine wiconst C X26 f3_38 (1 : Int32) rfl ?_
  refine wisub C X26 f3_39 ?_
  refine own_foldI (z := (5 : Int32)) (by decide) ?_
  refine wimul C X26 f3_40 ?_
  refine own_foldI (z := (10 : Int32)) (by decide) ?_
  refine wicmp_ge C X26 f3_41 ?_ (fun q => absurd (by decide : ((7 : Int32) < (10 : Int32))) q)
  intro _
  refine waloadN C X26 f3_44 rfl rfl ?_
  refine wget C X26 (host := "") (Or.inl (tw_12 hw)) Via.refl e26 (q24.other W26 (Or.inl ne_11)) f3_45 ?_
  intro T27 X27 e27
  refine wiloadN C X27 f3_48 rfl ?_
  refine wdconst0 C X27 f3_49 ?_
  refine wdastore C X27 e27 V26 f3_50 ⟨by decide, by decide⟩ 7 rfl (by rw [List.length_set, List.length_set, List.length_set, List.length_set, List.length_set, List.length_set, List.length_set, hlen]; decide) ((((((((ls.set 0 (.double FP.dconst0)).set 1 (.double FP.dconst0)).set 2 (.double FP.dconst0)).set 3 (.double FP.dconst0)).set 4 (.double FP.dconst0)).set 5 (.double FP.dconst0)).set 6 (.double FP.dconst0)).set 7 (.double FP.dconst0)) rfl ?_
  intro T28 h28 sl28 w28 X28 e28 W28 V28
  have N28 := Fr.snoc X28 N26 ge_9
  refine wiinc C X28 f3_51 (8 : Int32) (by decide) rfl #[.val (.ref a), .val (.ref pt), .val (.int (3 : Int32)), .val (.int (8 : Int32))] rfl ?_
  refine wgoto C X28 f3_54 ?_
  refine wiloadN C X28 f3_33 rfl ?_
  refine wiconst C X28 f3_34 (2 : Int32) rfl ?_
  refine wiconst C X28 f3_35 (2 : Int32) rfl ?_
  refine wiloadN C X28 f3_36 rfl ?_
  refine wimul C X28 f3_37 ?_
  refine own_foldI (z := (6 : Int32)) (by decide) ?_
  refine wiconst C X28 f3_38 (1 : Int32) rfl ?_
  refine wisub C X28 f3_39 ?_
  refine own_foldI (z := (5 : Int32)) (by decide) ?_
  refine wimul C X28 f3_40 ?_
  refine own_foldI (z := (10 : Int32)) (by decide) ?_
  refine wicmp_ge C X28 f3_41 ?_ (fun q => absurd (by decide : ((8 : Int32) < (10 : Int32))) q)
  intro _
  refine waloadN C X28 f3_44 rfl rfl ?_
  refine wget C X28 (host := "") (Or.inl (tw_12 hw)) Via.refl e28 ((q24.other W26 (Or.inl ne_11)).other W28 (Or.inl ne_11)) f3_45 ?_
  intro T29 X29 e29
  refine wiloadN C X29 f3_48 rfl ?_
  refine wdconst0 C X29 f3_49 ?_
  refine wdastore C X29 e29 V28 f3_50 ⟨by decide, by decide⟩ 8 rfl (by rw [List.length_set, List.length_set, List.length_set, List.length_set, List.length_set, List.length_set, List.length_set, List.length_set, hlen]; decide) (((((((((ls.set 0 (.double FP.dconst0)).set 1 (.double FP.dconst0)).set 2 (.double FP.dconst0)).set 3 (.double FP.dconst0)).set 4 (.double FP.dconst0)).set 5 (.double FP.dconst0)).set 6 (.double FP.dconst0)).set 7 (.double FP.dconst0)).set 8 (.double FP.dconst0)) rfl ?_
  intro T30 h30 sl30 w30 X30 e30 W30 V30
  have N30 := Fr.snoc X30 N28 ge_9
  refine wiinc C X30 f3_51 (9 : Int32) (by decide) rfl #[.val (.ref a), .val (.ref pt), .val (.int (3 : Int32)), .val (.int (9 : Int32))] rfl ?_
  refine wgoto C X30 f3_54 ?_
  refine wiloadN C X30 f3_33 rfl ?_
  refine wiconst C X30 f3_34 (2 : Int32) rfl ?_
  refine wiconst C X30 f3_35 (2 : Int32) rfl ?_
  refine wiloadN C X30 f3_36 rfl ?_
  refine wimul C X30 f3_37 ?_
  refine own_foldI (z := (6 : Int32)) (by decide) ?_
  refine wiconst C X30 f3_38 (1 : Int32) rfl ?_
  refine wisub C X30 f3_39 ?_
  refine own_foldI (z := (5 : Int32)) (by decide) ?_
  refine wimul C X30 f3_40 ?_
  refine own_foldI (z := (10 : Int32)) (by decide) ?_
  refine wicmp_ge C X30 f3_41 ?_ (fun q => absurd (by decide : ((9 : Int32) < (10 : Int32))) q)
  intro _
  refine waloadN C X30 f3_44 rfl rfl ?_
  have q31 := (((q24.other W26 (Or.inl ne_11)).other W28 (Or.inl ne_11)).other W30 (Or.inl ne_11))
  refine wget C X30 (host := "") (Or.inl (tw_12 hw)) Via.refl e30 q31 f3_45 ?_
  intro T32 X32 e32
  refine wiloadN C X32 f3_48 rfl ?_
  refine wdconst0 C X32 f3_49 ?_
  refine wdastore C X32 e32 V30 f3_50 ⟨by decide, by decide⟩ 9 rfl (by rw [List.length_set, List.length_set, List.length_set, List.length_set, List.length_set, List.length_set, List.length_set, List.length_set, List.length_set, hlen]; decide) ((((((((((ls.set 0 (.double FP.dconst0)).set 1 (.double FP.dconst0)).set 2 (.double FP.dconst0)).set 3 (.double FP.dconst0)).set 4 (.double FP.dconst0)).set 5 (.double FP.dconst0)).set 6 (.double FP.dconst0)).set 7 (.double FP.dconst0)).set 8 (.double FP.dconst0)).set 9 (.double FP.dconst0)) rfl ?_
  intro T33 h33 sl33 w33 X33 e33 W33 V33
  have N33 := Fr.snoc X33 N30 ge_9
  refine wiinc C X33 f3_51 (10 : Int32) (by decide) rfl #[.val (.ref a), .val (.ref pt), .val (.int (3 : Int32)), .val (.int (10 : Int32))] rfl ?_
  refine wgoto C X33 f3_54 ?_
  refine wiloadN C X33 f3_33 rfl ?_
  refine wiconst C X33 f3_34 (2 : Int32) rfl ?_
  refine wiconst C X33 f3_35 (2 : Int32) rfl ?_
  refine wiloadN C X33 f3_36 rfl ?_
  refine wimul C X33 f3_37 ?_
  refine own_foldI (z := (6 : Int32)) (by decide) ?_
  refine wiconst C X33 f3_38 (1 : Int32) rfl ?_
  refine wisub C X33 f3_39 ?_
  refine own_foldI (z := (5 : Int32)) (by decide) ?_
  refine wimul C X33 f3_40 ?_
  refine own_foldI (z := (10 : Int32)) (by decide) ?_
  refine wicmp_ge C X33 f3_41 (fun q => absurd q (by decide : ¬ ((10 : Int32) < (10 : Int32)))) ?_
  intro _
  refine wret C X33 f3_57 rfl (by decide) (by decide) ?_
  rw [e33]
  have q34 := (((((((((((((((Keep.refl h0 [a, ph, pl]).wr W1 (Or.inl (List.mem_of_getElem? (i := 0) rfl))).wr W4 (Or.inl (List.mem_of_getElem? (i := 1) rfl))).wr W6 (Or.inl (List.mem_of_getElem? (i := 1) rfl))).wr W8 (Or.inl (List.mem_of_getElem? (i := 1) rfl))).wr W12 (Or.inl (List.mem_of_getElem? (i := 2) rfl))).wr W14 (Or.inl (List.mem_of_getElem? (i := 2) rfl))).wr W16 (Or.inl (List.mem_of_getElem? (i := 2) rfl))).wr W19 (Or.inl (List.mem_of_getElem? (i := 2) rfl))).wr W21 (Or.inl (List.mem_of_getElem? (i := 2) rfl))).wr W23 (Or.inl (List.mem_of_getElem? (i := 2) rfl))).wr W26 (Or.inl (List.mem_of_getElem? (i := 2) rfl))).wr W28 (Or.inl (List.mem_of_getElem? (i := 2) rfl))).wr W30 (Or.inl (List.mem_of_getElem? (i := 2) rfl))).wr W33 (Or.inl (List.mem_of_getElem? (i := 2) rfl)))
  have q35 := ((((((((((((((Exa_0.wr W1).wr W4).wr W6).wr W8).wr W12).wr W14).wr W16).wr W19).wr W21).wr W23).wr W26).wr W28).wr W30).wr W33)
  have q36 := (((((((((((((q2.other W4 (Or.inl ne_10)).other W6 (Or.inl ne_10)).other W8 (Or.inl ne_10)).other W12 (Or.inl ne_11)).other W14 (Or.inl ne_11)).other W16 (Or.inl ne_11)).other W19 (Or.inl ne_11)).other W21 (Or.inl ne_11)).other W23 (Or.inl ne_11)).other W26 (Or.inl ne_11)).other W28 (Or.inl ne_11)).other W30 (Or.inl ne_11)).other W33 (Or.inl ne_11))
  have q37 := (((((((((((((Fw1.other W4 (Or.inl ne_10)).other W6 (Or.inl ne_10)).other W8 (Or.inl ne_10)).other W12 (Or.inl ne_11)).other W14 (Or.inl ne_11)).other W16 (Or.inl ne_11)).other W19 (Or.inl ne_11)).other W21 (Or.inl ne_11)).other W23 (Or.inl ne_11)).other W26 (Or.inl ne_11)).other W28 (Or.inl ne_11)).other W30 (Or.inl ne_11)).other W33 (Or.inl ne_11))
  have q38 := ((((((((((V8.other W12 ne_12).other W14 ne_12).other W16 ne_12).other W19 ne_12).other W21 ne_12).other W23 ne_12).other W26 ne_12).other W28 ne_12).other W30 ne_12).other W33 ne_12)
  exact ⟨rfl, N33, q34, q35, q36, q37, (q31.other W33 (Or.inl ne_11)), q38, V33⟩
theorem ef_3_4 (m : MethodId) (a : Addr) (pt : Addr) (cn : Int32) : entryFrame m #[(.ref a), (.ref pt), (.int cn)] 4 = mkF m 0 #[.val (.ref a), .val (.ref pt), .val (.int cn), .unset] [] := by first | (simp [entryFrame, mkF, argsToLocals, Value.category]; done) | rfl
def Q3_4 (Z : State) (a : Addr) (pt : Addr) (cn : Int32) (ph : Addr) (pl : Addr) (k1 : ClassId) (k2 : ClassId) (k3 : ClassId) (oc : Int32) (ls : List Value) (qq0 : UInt64) (qq1 : UInt64) (qq2 : UInt64) (qq3 : UInt64) (t0 : UInt64) (t1 : UInt64) (t2 : UInt64) (t3 : UInt64) (h0 : Heap) (n0 : Nat) (v9 : Option Value) (h9 : Heap) (L9 : List Loc) : Prop := v9 = none ∧ Fr n0 L9 ∧ Keep h0 h9 [a, ph, pl] ∧ Exa Z h9 a "com/example/arbor_center/arborcenter/objective/UpperEnvelope" ∧ Fld Z h9 a "com/example/arbor_center/arborcenter/objective/UpperEnvelope" "halfPoints" "[D" (.ref ph) ∧ Fld Z h9 a "com/example/arbor_center/arborcenter/objective/UpperEnvelope" "count" "I" (.int (4 : Int32)) ∧ Fld Z h9 a "com/example/arbor_center/arborcenter/objective/UpperEnvelope" "lines" "[D" (.ref pl) ∧ Arv Z h9 ph k1 .double (4 : Int32) [(.double (FP.ddiv t0 (4611686018427387904 : UInt64))), (.double (FP.ddiv t1 (4611686018427387904 : UInt64))), (.double (FP.ddiv t2 (4611686018427387904 : UInt64))), (.double (FP.ddiv t3 (4611686018427387904 : UInt64)))] (.double (0 : UInt64)) ∧ Arv Z h9 pl k2 .double (14 : Int32) ((((((((((((((ls.set 0 (.double FP.dconst0)).set 1 (.double FP.dconst0)).set 2 (.double FP.dconst0)).set 3 (.double FP.dconst0)).set 4 (.double FP.dconst0)).set 5 (.double FP.dconst0)).set 6 (.double FP.dconst0)).set 7 (.double FP.dconst0)).set 8 (.double FP.dconst0)).set 9 (.double FP.dconst0)).set 10 (.double FP.dconst0)).set 11 (.double FP.dconst0)).set 12 (.double FP.dconst0)).set 13 (.double FP.dconst0)) (.double (0 : UInt64))
set_option maxRecDepth 65536 in
set_option maxHeartbeats 40000000 in
theorem rm3_4 (l : Launch) (Z : State) (a0 : Array Value) (hw : ∀ d ∈ tables_1, d.before a0 Z = true) (ws : List Jvm.Cond) (a : Addr) (pt : Addr) (cn : Int32) (ph : Addr) (pl : Addr) (k1 : ClassId) (k2 : ClassId) (k3 : ClassId) (oc : Int32) (ls : List Value) (qq0 : UInt64) (qq1 : UInt64) (qq2 : UInt64) (qq3 : UInt64) (t0 : UInt64) (t1 : UInt64) (t2 : UInt64) (t3 : UInt64) (h0 : Heap) (n0 : Nat) (Z0 : n0 ≤ h0.size) (Exa_0 : Exa Z h0 a "com/example/arbor_center/arborcenter/objective/UpperEnvelope") (Fld_1 : Fld Z h0 a "com/example/arbor_center/arborcenter/objective/UpperEnvelope" "halfPoints" "[D" (.ref ph)) (Fld_2 : Fld Z h0 a "com/example/arbor_center/arborcenter/objective/UpperEnvelope" "count" "I" (.int oc)) (Fld_3 : Fld Z h0 a "com/example/arbor_center/arborcenter/objective/UpperEnvelope" "lines" "[D" (.ref pl)) (Arv_4 : Arv Z h0 ph k1 .double (4 : Int32) [(.double qq0), (.double qq1), (.double qq2), (.double qq3)] (.double (0 : UInt64))) (Arv_5 : Arv Z h0 pl k2 .double (14 : Int32) ls (.double (0 : UInt64))) (Arv_6 : Arv Z h0 pt k3 .double (4 : Int32) [(.double t0), (.double t1), (.double t2), (.double t3)] (.double (0 : UInt64))) (ge_7 : n0 ≤ a) (ge_8 : n0 ≤ ph) (ge_9 : n0 ≤ pl) (ne_10 : a ≠ ph) (ne_11 : a ≠ pl) (ne_12 : ph ≠ pl) (ne_13 : pt ≠ a) (ne_14 : pt ≠ ph) (ne_15 : pt ≠ pl) (hcn : (cn = (4 : Int32))) (hlen : (ls.length = 14)) (ht0 : (∃ q : Int, FP.Core.DInt q t0 ∧ 0 ≤ q ∧ q ≤ 65536)) (ht1 : (∃ q : Int, FP.Core.DInt q t1 ∧ 0 ≤ q ∧ q ≤ 65536)) (ht2 : (∃ q : Int, FP.Core.DInt q t2 ∧ 0 ≤ q ∧ q ≤ 65536)) (ht3 : (∃ q : Int, FP.Core.DInt q t3 ∧ 0 ≤ q ∧ q ≤ 65536)) :
    MetFree l (⟨"com/example/arbor_center/arborcenter/objective/UpperEnvelope", "reset", "([DI)V"⟩ : MethodName) (head1 (Jvm.Cond.code (⟨"com/example/arbor_center/arborcenter/objective/UpperEnvelope", "reset", "([DI)V"⟩ : MethodName) prog_12_method_2_code 4 none :: ws) ({ frames := 0, cells := 0, slots := 0, locals := 0 } : Room)) (fun A9 U9 => A9 = #[(.ref a), (.ref pt), (.int cn)] ∧ Z.Warmed39 U9.vm ∧ U9.heap = h0) (fun _ _ _ _ _ => True) (fun _ U9 o9 V9 => ∃ v9 L9, o9 = .returned v9 ∧ (Q3_4 Z a pt cn ph pl k1 k2 k3 oc ls qq0 qq1 qq2 qq3 t0 t1 t2 t3 h0 n0) v9 V9.heap L9 ∧ FrameEnd U9 o9 V9 L9 ({ frames := 0, cells := 0, slots := 0, locals := 0 } : Room).cells ({ frames := 0, cells := 0, slots := 0, locals := 0 } : Room).slots) := by
  refine met_of (Q := (Q3_4 Z a pt cn ph pl k1 k2 k3 oc ls qq0 qq1 qq2 qq3 t0 t1 t2 t3 h0 n0)) pn_3 ?_
  intro p e s m below meth c T0 C X0 e0
  have N0 := Fr.nil n0
  refine Go.cast (ef_3_4 m a pt cn) ?_
  subst hcn
  refine waloadN C X0 f3_0 rfl rfl ?_
  refine wiloadN C X0 f3_1 rfl ?_
  refine wput C X0 (host := "") (Or.inl (tw_19 hw)) Via.refl e0 Fld_2 Exa_0 (Or.inl (tw_20 hw)) (tw_2 hw) (ty := .int) (by decide) rfl rfl f3_2 ?_
  intro T1 h1 X1 e1 W1
  have Fw1 := Fld_2.same W1
  have N1 := Fr.snoc X1 N0 ge_7
  refine wiconst C X1 f3_5 (0 : Int32) rfl ?_
  refine wistoreN C X1 f3_6 #[.val (.ref a), .val (.ref pt), .val (.int (4 : Int32)), .val (.int (0 : Int32))] rfl ?_
  refine wiloadN C X1 f3_7 rfl ?_
  refine wiloadN C X1 f3_8 rfl ?_
  refine wicmp_ge C X1 f3_9 ?_ (fun q => absurd (by decide : ((0 : Int32) < (4 : Int32))) q)
  intro _
  refine waloadN C X1 f3_12 rfl rfl ?_
  have q2 := (Fld_1.other W1 (Or.inr (slot_ne (Or.inr (tw_11 hw)) (Or.inl (tw_20 hw)) (by decide) (t := (.array .double)) (t' := .int) (by decide) (by decide))))
  refine wget C X1 (host := "") (Or.inl (tw_10 hw)) Via.refl e1 q2 f3_13 ?_
  intro T3 X3 e3
  refine wiloadN C X3 f3_16 rfl ?_
  refine waloadN C X3 f3_17 rfl rfl ?_
  refine wiloadN C X3 f3_18 rfl ?_
  refine wdaload C X3 e3 (Arv_6.other W1 ne_13) f3_19 ⟨by decide, by decide⟩ (i := 0) rfl (v := t0) rfl ?_
  refine wldc2D C X3 (tw_21 hw) f3_20 ?_
  refine wddiv C X3 f3_23 (v := (FP.ddiv t0 (4611686018427387904 : UInt64))) rfl (own_tn ht0) ?_
  refine wdastore C X3 e3 (Arv_4.other W1 (Ne.symm ne_10)) f3_24 ⟨by decide, by decide⟩ 0 rfl (show (0 : Nat) < 4 by decide) [(.double (FP.ddiv t0 (4611686018427387904 : UInt64))), (.double qq1), (.double qq2), (.double qq3)] rfl ?_
  intro T4 h4 sl4 w4 X4 e4 W4 V4
  have N4 := Fr.snoc X4 N1 ge_8
  refine wiinc C X4 f3_25 (1 : Int32) (by decide) rfl #[.val (.ref a), .val (.ref pt), .val (.int (4 : Int32)), .val (.int (1 : Int32))] rfl ?_
  refine wgoto C X4 f3_28 ?_
  refine wiloadN C X4 f3_7 rfl ?_
  refine wiloadN C X4 f3_8 rfl ?_
  refine wicmp_ge C X4 f3_9 ?_ (fun q => absurd (by decide : ((1 : Int32) < (4 : Int32))) q)
  intro _
  refine waloadN C X4 f3_12 rfl rfl ?_
  refine wget C X4 (host := "") (Or.inl (tw_10 hw)) Via.refl e4 (q2.other W4 (Or.inl ne_10)) f3_13 ?_
  intro T5 X5 e5
  refine wiloadN C X5 f3_16 rfl ?_
  refine waloadN C X5 f3_17 rfl rfl ?_
  refine wiloadN C X5 f3_18 rfl ?_
  refine wdaload C X5 e5 ((Arv_6.other W1 ne_13).other W4 ne_14) f3_19 ⟨by decide, by decide⟩ (i := 1) rfl (v := t1) rfl ?_
  refine wldc2D C X5 (tw_21 hw) f3_20 ?_
  refine wddiv C X5 f3_23 (v := (FP.ddiv t1 (4611686018427387904 : UInt64))) rfl (own_tn ht1) ?_
  refine wdastore C X5 e5 V4 f3_24 ⟨by decide, by decide⟩ 1 rfl (show (1 : Nat) < 4 by decide) [(.double (FP.ddiv t0 (4611686018427387904 : UInt64))), (.double (FP.ddiv t1 (4611686018427387904 : UInt64))), (.double qq2), (.double qq3)] rfl ?_
  intro T6 h6 sl6 w6 X6 e6 W6 V6
  have N6 := Fr.snoc X6 N4 ge_8
  refine wiinc C X6 f3_25 (2 : Int32) (by decide) rfl #[.val (.ref a), .val (.ref pt), .val (.int (4 : Int32)), .val (.int (2 : Int32))] rfl ?_
  refine wgoto C X6 f3_28 ?_
  refine wiloadN C X6 f3_7 rfl ?_
  refine wiloadN C X6 f3_8 rfl ?_
  refine wicmp_ge C X6 f3_9 ?_ (fun q => absurd (by decide : ((2 : Int32) < (4 : Int32))) q)
  intro _
  refine waloadN C X6 f3_12 rfl rfl ?_
  refine wget C X6 (host := "") (Or.inl (tw_10 hw)) Via.refl e6 ((q2.other W4 (Or.inl ne_10)).other W6 (Or.inl ne_10)) f3_13 ?_
  intro T7 X7 e7
  refine wiloadN C X7 f3_16 rfl ?_
  refine waloadN C X7 f3_17 rfl rfl ?_
  refine wiloadN C X7 f3_18 rfl ?_
  refine wdaload C X7 e7 (((Arv_6.other W1 ne_13).other W4 ne_14).other W6 ne_14) f3_19 ⟨by decide, by decide⟩ (i := 2) rfl (v := t2) rfl ?_
  refine wldc2D C X7 (tw_21 hw) f3_20 ?_
  refine wddiv C X7 f3_23 (v := (FP.ddiv t2 (4611686018427387904 : UInt64))) rfl (own_tn ht2) ?_
  refine wdastore C X7 e7 V6 f3_24 ⟨by decide, by decide⟩ 2 rfl (show (2 : Nat) < 4 by decide) [(.double (FP.ddiv t0 (4611686018427387904 : UInt64))), (.double (FP.ddiv t1 (4611686018427387904 : UInt64))), (.double (FP.ddiv t2 (4611686018427387904 : UInt64))), (.double qq3)] rfl ?_
  intro T8 h8 sl8 w8 X8 e8 W8 V8
  have N8 := Fr.snoc X8 N6 ge_8
  refine wiinc C X8 f3_25 (3 : Int32) (by decide) rfl #[.val (.ref a), .val (.ref pt), .val (.int (4 : Int32)), .val (.int (3 : Int32))] rfl ?_
  refine wgoto C X8 f3_28 ?_
  refine wiloadN C X8 f3_7 rfl ?_
  refine wiloadN C X8 f3_8 rfl ?_
  refine wicmp_ge C X8 f3_9 ?_ (fun q => absurd (by decide : ((3 : Int32) < (4 : Int32))) q)
  intro _
  refine waloadN C X8 f3_12 rfl rfl ?_
  have q9 := (((q2.other W4 (Or.inl ne_10)).other W6 (Or.inl ne_10)).other W8 (Or.inl ne_10))
  refine wget C X8 (host := "") (Or.inl (tw_10 hw)) Via.refl e8 q9 f3_13 ?_
  intro T10 X10 e10
  refine wiloadN C X10 f3_16 rfl ?_
  refine waloadN C X10 f3_17 rfl rfl ?_
  refine wiloadN C X10 f3_18 rfl ?_
  have q11 := ((((Arv_6.other W1 ne_13).other W4 ne_14).other W6 ne_14).other W8 ne_14)
  refine wdaload C X10 e10 q11 f3_19 ⟨by decide, by decide⟩ (i := 3) rfl (v := t3) rfl ?_
  refine wldc2D C X10 (tw_21 hw) f3_20 ?_
  refine wddiv C X10 f3_23 (v := (FP.ddiv t3 (4611686018427387904 : UInt64))) rfl (own_tn ht3) ?_
  refine wdastore C X10 e10 V8 f3_24 ⟨by decide, by decide⟩ 3 rfl (show (3 : Nat) < 4 by decide) [(.double (FP.ddiv t0 (4611686018427387904 : UInt64))), (.double (FP.ddiv t1 (4611686018427387904 : UInt64))), (.double (FP.ddiv t2 (4611686018427387904 : UInt64))), (.double (FP.ddiv t3 (4611686018427387904 : UInt64)))] rfl ?_
  intro T12 h12 sl12 w12 X12 e12 W12 V12
  have N12 := Fr.snoc X12 N8 ge_8
  refine wiinc C X12 f3_25 (4 : Int32) (by decide) rfl #[.val (.ref a), .val (.ref pt), .val (.int (4 : Int32)), .val (.int (4 : Int32))] rfl ?_
  refine wgoto C X12 f3_28 ?_
  refine wiloadN C X12 f3_7 rfl ?_
  refine wiloadN C X12 f3_8 rfl ?_
  refine wicmp_ge C X12 f3_9 (fun q => absurd q (by decide : ¬ ((4 : Int32) < (4 : Int32)))) ?_
  intro _
  refine wiconst C X12 f3_31 (0 : Int32) rfl ?_
  refine wistoreN C X12 f3_32 #[.val (.ref a), .val (.ref pt), .val (.int (4 : Int32)), .val (.int (0 : Int32))] rfl ?_
  refine wiloadN C X12 f3_33 rfl ?_
  refine wiconst C X12 f3_34 (2 : Int32) rfl ?_
  refine wiconst C X12 f3_35 (2 : Int32) rfl ?_
  refine wiloadN C X12 f3_36 rfl ?_
  refine wimul C X12 f3_37 ?_
  refine own_foldI (z := (8 : Int32)) (by decide) ?_
  refine wiconst C X12 f3_38 (1 : Int32) rfl ?_
  refine wisub C X12 f3_39 ?_
  refine own_foldI (z := (7 : Int32)) (by decide) ?_
  refine wimul C X12 f3_40 ?_
  refine own_foldI (z := (14 : Int32)) (by decide) ?_
  refine wicmp_ge C X12 f3_41 ?_ (fun q => absurd (by decide : ((0 : Int32) < (14 : Int32))) q)
  intro _
  refine waloadN C X12 f3_44 rfl rfl ?_
  have q13 := (((((Fld_3.other W1 (Or.inr (slot_ne (Or.inr (tw_13 hw)) (Or.inl (tw_20 hw)) (by decide) (t := (.array .double)) (t' := .int) (by decide) (by decide)))).other W4 (Or.inl ne_10)).other W6 (Or.inl ne_10)).other W8 (Or.inl ne_10)).other W12 (Or.inl ne_10))
  refine wget C X12 (host := "") (Or.inl (tw_12 hw)) Via.refl e12 q13 f3_45 ?_
  intro T14 X14 e14
  refine wiloadN C X14 f3_48 rfl ?_
  refine wdconst0 C X14 f3_49 ?_
  have q15 := (((((Arv_5.other W1 (Ne.symm ne_11)).other W4 (Ne.symm ne_12)).other W6 (Ne.symm ne_12)).other W8 (Ne.symm ne_12)).other W12 (Ne.symm ne_12))
  refine wdastore C X14 e14 q15 f3_50 ⟨by decide, by decide⟩ 0 rfl (by rw [hlen]; decide) (ls.set 0 (.double FP.dconst0)) rfl ?_
  intro T16 h16 sl16 w16 X16 e16 W16 V16
  have N16 := Fr.snoc X16 N12 ge_9
  refine wiinc C X16 f3_51 (1 : Int32) (by decide) rfl #[.val (.ref a), .val (.ref pt), .val (.int (4 : Int32)), .val (.int (1 : Int32))] rfl ?_
  refine wgoto C X16 f3_54 ?_
  refine wiloadN C X16 f3_33 rfl ?_
  refine wiconst C X16 f3_34 (2 : Int32) rfl ?_
  refine wiconst C X16 f3_35 (2 : Int32) rfl ?_
  refine wiloadN C X16 f3_36 rfl ?_
  refine wimul C X16 f3_37 ?_
  refine own_foldI (z := (8 : Int32)) (by decide) ?_
  refine wiconst C X16 f3_38 (1 : Int32) rfl ?_
  refine wisub C X16 f3_39 ?_
  refine own_foldI (z := (7 : Int32)) (by decide) ?_
  refine wimul C X16 f3_40 ?_
  refine own_foldI (z := (14 : Int32)) (by decide) ?_
  refine wicmp_ge C X16 f3_41 ?_ (fun q => absurd (by decide : ((1 : Int32) < (14 : Int32))) q)
  intro _
  refine waloadN C X16 f3_44 rfl rfl ?_
  refine wget C X16 (host := "") (Or.inl (tw_12 hw)) Via.refl e16 (q13.other W16 (Or.inl ne_11)) f3_45 ?_
  intro T17 X17 e17
  refine wiloadN C X17 f3_48 rfl ?_
  refine wdconst0 C X17 f3_49 ?_
  refine wdastore C X17 e17 V16 f3_50 ⟨by decide, by decide⟩ 1 rfl (by rw [List.length_set, hlen]; decide) ((ls.set 0 (.double FP.dconst0)).set 1 (.double FP.dconst0)) rfl ?_
  intro T18 h18 sl18 w18 X18 e18 W18 V18
  have N18 := Fr.snoc X18 N16 ge_9
  refine wiinc C X18 f3_51 (2 : Int32) (by decide) rfl #[.val (.ref a), .val (.ref pt), .val (.int (4 : Int32)), .val (.int (2 : Int32))] rfl ?_
  refine wgoto C X18 f3_54 ?_
  refine wiloadN C X18 f3_33 rfl ?_
  refine wiconst C X18 f3_34 (2 : Int32) rfl ?_
  refine wiconst C X18 f3_35 (2 : Int32) rfl ?_
  refine wiloadN C X18 f3_36 rfl ?_
  refine wimul C X18 f3_37 ?_
  refine own_foldI (z := (8 : Int32)) (by decide) ?_
  refine wiconst C X18 f3_38 (1 : Int32) rfl ?_
  refine wisub C X18 f3_39 ?_
  refine own_foldI (z := (7 : Int32)) (by decide) ?_
  refine wimul C X18 f3_40 ?_
  refine own_foldI (z := (14 : Int32)) (by decide) ?_
  refine wicmp_ge C X18 f3_41 ?_ (fun q => absurd (by decide : ((2 : Int32) < (14 : Int32))) q)
  intro _
  refine waloadN C X18 f3_44 rfl rfl ?_
  refine wget C X18 (host := "") (Or.inl (tw_12 hw)) Via.refl e18 ((q13.other W16 (Or.inl ne_11)).other W18 (Or.inl ne_11)) f3_45 ?_
  intro T19 X19 e19
  refine wiloadN C X19 f3_48 rfl ?_
  refine wdconst0 C X19 f3_49 ?_
  refine wdastore C X19 e19 V18 f3_50 ⟨by decide, by decide⟩ 2 rfl (by rw [List.length_set, List.length_set, hlen]; decide) (((ls.set 0 (.double FP.dconst0)).set 1 (.double FP.dconst0)).set 2 (.double FP.dconst0)) rfl ?_
  intro T20 h20 sl20 w20 X20 e20 W20 V20
  have N20 := Fr.snoc X20 N18 ge_9
  refine wiinc C X20 f3_51 (3 : Int32) (by decide) rfl #[.val (.ref a), .val (.ref pt), .val (.int (4 : Int32)), .val (.int (3 : Int32))] rfl ?_
  refine wgoto C X20 f3_54 ?_
  refine wiloadN C X20 f3_33 rfl ?_
  refine wiconst C X20 f3_34 (2 : Int32) rfl ?_
  refine wiconst C X20 f3_35 (2 : Int32) rfl ?_
  refine wiloadN C X20 f3_36 rfl ?_
  refine wimul C X20 f3_37 ?_
  refine own_foldI (z := (8 : Int32)) (by decide) ?_
  refine wiconst C X20 f3_38 (1 : Int32) rfl ?_
  refine wisub C X20 f3_39 ?_
  refine own_foldI (z := (7 : Int32)) (by decide) ?_
  refine wimul C X20 f3_40 ?_
  refine own_foldI (z := (14 : Int32)) (by decide) ?_
  refine wicmp_ge C X20 f3_41 ?_ (fun q => absurd (by decide : ((3 : Int32) < (14 : Int32))) q)
  intro _
  refine waloadN C X20 f3_44 rfl rfl ?_
  have q21 := (((q13.other W16 (Or.inl ne_11)).other W18 (Or.inl ne_11)).other W20 (Or.inl ne_11))
  refine wget C X20 (host := "") (Or.inl (tw_12 hw)) Via.refl e20 q21 f3_45 ?_
  intro T22 X22 e22
  refine wiloadN C X22 f3_48 rfl ?_
  refine wdconst0 C X22 f3_49 ?_
  refine wdastore C X22 e22 V20 f3_50 ⟨by decide, by decide⟩ 3 rfl (by rw [List.length_set, List.length_set, List.length_set, hlen]; decide) ((((ls.set 0 (.double FP.dconst0)).set 1 (.double FP.dconst0)).set 2 (.double FP.dconst0)).set 3 (.double FP.dconst0)) rfl ?_
  intro T23 h23 sl23 w23 X23 e23 W23 V23
  have N23 := Fr.snoc X23 N20 ge_9
  refine wiinc C X23 f3_51 (4 : Int32) (by decide) rfl #[.val (.ref a), .val (.ref pt), .val (.int (4 : Int32)), .val (.int (4 : Int32))] rfl ?_
  refine wgoto C X23 f3_54 ?_
  refine wiloadN C X23 f3_33 rfl ?_
  refine wiconst C X23 f3_34 (2 : Int32) rfl ?_
  refine wiconst C X23 f3_35 (2 : Int32) rfl ?_
  refine wiloadN C X23 f3_36 rfl ?_
  refine wimul C X23 f3_37 ?_
  refine own_foldI (z := (8 : Int32)) (by decide) ?_
  refine wiconst C X23 f3_38 (1 : Int32) rfl ?_
  refine wisub C X23 f3_39 ?_
  refine own_foldI (z := (7 : Int32)) (by decide) ?_
  refine wimul C X23 f3_40 ?_
  refine own_foldI (z := (14 : Int32)) (by decide) ?_
  refine wicmp_ge C X23 f3_41 ?_ (fun q => absurd (by decide : ((4 : Int32) < (14 : Int32))) q)
  intro _
  refine waloadN C X23 f3_44 rfl rfl ?_
  refine wget C X23 (host := "") (Or.inl (tw_12 hw)) Via.refl e23 (q21.other W23 (Or.inl ne_11)) f3_45 ?_
  intro T24 X24 e24
  refine wiloadN C X24 f3_48 rfl ?_
  refine wdconst0 C X24 f3_49 ?_
  refine wdastore C X24 e24 V23 f3_50 ⟨by decide, by decide⟩ 4 rfl (by rw [List.length_set, List.length_set, List.length_set, List.length_set, hlen]; decide) (((((ls.set 0 (.double FP.dconst0)).set 1 (.double FP.dconst0)).set 2 (.double FP.dconst0)).set 3 (.double FP.dconst0)).set 4 (.double FP.dconst0)) rfl ?_
  intro T25 h25 sl25 w25 X25 e25 W25 V25
  have N25 := Fr.snoc X25 N23 ge_9
  refine wiinc C X25 f3_51 (5 : Int32) (by decide) rfl #[.val (.ref a), .val (.ref pt), .val (.int (4 : Int32)), .val (.int (5 : Int32))] rfl ?_
  refine wgoto C X25 f3_54 ?_
  refine wiloadN C X25 f3_33 rfl ?_
  refine wiconst C X25 f3_34 (2 : Int32) rfl ?_
  refine wiconst C X25 f3_35 (2 : Int32) rfl ?_
  refine wiloadN C X25 f3_36 rfl ?_
  refine wimul C X25 f3_37 ?_
  refine own_foldI (z := (8 : Int32)) (by decide) ?_
  refine wiconst C X25 f3_38 (1 : Int32) rfl ?_
  refine wisub C X25 f3_39 ?_
  refine own_foldI (z := (7 : Int32)) (by decide) ?_
  refine wimul C X25 f3_40 ?_
  refine own_foldI (z := (14 : Int32)) (by decide) ?_
  refine wicmp_ge C X25 f3_41 ?_ (fun q => absurd (by decide : ((5 : Int32) < (14 : Int32))) q)
  intro _
  refine waloadN C X25 f3_44 rfl rfl ?_
  refine wget C X25 (host := "") (Or.inl (tw_12 hw)) Via.refl e25 ((q21.other W23 (Or.inl ne_11)).other W25 (Or.inl ne_11)) f3_45 ?_
  intro T26 X26 e26
  refine wiloadN C X26 f3_48 rfl ?_
  refine wdconst0 C X26 f3_49 ?_
  refine wdastore C X26 e26 V25 f3_50 ⟨by decide, by decide⟩ 5 rfl (by rw [List.length_set, List.length_set, List.length_set, List.length_set, List.length_set, hlen]; decide) ((((((ls.set 0 (.double FP.dconst0)).set 1 (.double FP.dconst0)).set 2 (.double FP.dconst0)).set 3 (.double FP.dconst0)).set 4 (.double FP.dconst0)).set 5 (.double FP.dconst0)) rfl ?_
  intro T27 h27 sl27 w27 X27 e27 W27 V27
  have N27 := Fr.snoc X27 N25 ge_9
  refine wiinc C X27 f3_51 (6 : Int32) (by decide) rfl #[.val (.ref a), .val (.ref pt), .val (.int (4 : Int32)), .val (.int (6 : Int32))] rfl ?_
  refine wgoto C X27 f3_54 ?_
  refine wiloadN C X27 f3_33 rfl ?_
  refine wiconst C X27 f3_34 (2 : Int32) rfl ?_
  refine wiconst C X27 f3_35 (2 : Int32) rfl ?_
  refine wiloadN C X27 f3_36 rfl ?_
  refine wimul C X27 f3_37 ?_
  refine own_foldI (z := (8 : Int32)) (by decide) ?_
  refine wiconst C X27 f3_38 (1 : Int32) rfl ?_
  refine wisub C X27 f3_39 ?_
  refine own_foldI (z := (7 : Int32)) (by decide) ?_
  refine wimul C X27 f3_40 ?_
  refine own_foldI (z := (14 : Int32)) (by decide) ?_
  refine wicmp_ge C X27 f3_41 ?_ (fun q => absurd (by decide : ((6 : Int32) < (14 : Int32))) q)
  intro _
  refine waloadN C X27 f3_44 rfl rfl ?_
  have q28 := (((q21.other W23 (Or.inl ne_11)).other W25 (Or.inl ne_11)).other W27 (Or.inl ne_11))
  refine wget C X27 (host := "") (Or.inl (tw_12 hw)) Via.refl e27 q28 f3_45 ?_
  intro T29 X29 e29
  refine wiloadN C X29 f3_48 rfl ?_
  refine wdconst0 C X29 f3_49 ?_
  refine wdastore C X29 e29 V27 f3_50 ⟨by decide, by decide⟩ 6 rfl (by rw [List.length_set, List.length_set, List.length_set, List.length_set, List.length_set, List.length_set, hlen]; decide) (((((((ls.set 0 (.double FP.dconst0)).set 1 (.double FP.dconst0)).set 2 (.double FP.dconst0)).set 3 (.double FP.dconst0)).set 4 (.double FP.dconst0)).set 5 (.double FP.dconst0)).set 6 (.double FP.dconst0)) rfl ?_
  intro T30 h30 sl30 w30 X30 e30 W30 V30
  have N30 := Fr.snoc X30 N27 ge_9
  refine wiinc C X30 f3_51 (7 : Int32) (by decide) rfl #[.val (.ref a), .val (.ref pt), .val (.int (4 : Int32)), .val (.int (7 : Int32))] rfl ?_
  refine wgoto C X30 f3_54 ?_
  refine wiloadN C X30 f3_33 rfl ?_
  refine wiconst C X30 f3_34 (2 : Int32) rfl ?_
  refine wiconst C X30 f3_35 (2 : Int32) rfl ?_
  refine wiloadN C X30 f3_36 rfl ?_
  refine wimul C X30 f3_37 ?_
  refine own_foldI (z := (8 : Int32)) (by decide) ?_
  refine wiconst C X30 f3_38 (1 : Int32) rfl ?_
  refine wisub C X30 f3_39 ?_
  refine own_foldI (z := (7 : Int32)) (by decide) ?_
  refine wimul C X30 f3_40 ?_
  refine own_foldI (z := (14 : Int32)) (by decide) ?_
  refine wicmp_ge C X30 f3_41 ?_ (fun q => absurd (by decide : ((7 : Int32) < (14 : Int32))) q)
  intro _
  refine waloadN C X30 f3_44 rfl rfl ?_
  refine wget C X30 (host := "") (Or.inl (tw_12 hw)) Via.refl e30 (q28.other W30 (Or.inl ne_11)) f3_45 ?_
  intro T31 X31 e31
  refine wiloadN C X31 f3_48 rfl ?_
  refine wdconst0 C X31 f3_49 ?_
  refine wdastore C X31 e31 V30 f3_50 ⟨by decide, by decide⟩ 7 rfl (by rw [List.length_set, List.length_set, List.length_set, List.length_set, List.length_set, List.length_set, List.length_set, hlen]; decide) ((((((((ls.set 0 (.double FP.dconst0)).set 1 (.double FP.dconst0)).set 2 (.double FP.dconst0)).set 3 (.double FP.dconst0)).set 4 (.double FP.dconst0)).set 5 (.double FP.dconst0)).set 6 (.double FP.dconst0)).set 7 (.double FP.dconst0)) rfl ?_
  intro T32 h32 sl32 w32 X32 e32 W32 V32
  have N32 := Fr.snoc X32 N30 ge_9
  refine wiinc C X32 f3_51 (8 : Int32) (by decide) rfl #[.val (.ref a), .val (.ref pt), .val (.int (4 : Int32)), .val (.int (8 : Int32))] rfl ?_
  refine wgoto C X32 f3_54 ?_
  refine wiloadN C X32 f3_33 rfl ?_
  refine wiconst C X32 f3_34 (2 : Int32) rfl ?_
  refine wiconst C X32 f3_35 (2 : Int32) rfl ?_
  refine wiloadN C X32 f3_36 rfl ?_
  refine wimul C X32 f3_37 ?_
  refine own_foldI (z := (8 : Int32)) (by decide) ?_
  refine wiconst C X32 f3_38 (1 : Int32) rfl ?_
  refine wisub C X32 f3_39 ?_
  refine own_foldI (z := (7 : Int32)) (by decide) ?_
  refine wimul C X32 f3_40 ?_
  refine own_foldI (z := (14 : Int32)) (by decide) ?_
  refine wicmp_ge C X32 f3_41 ?_ (fun q => absurd (by decide : ((8 : Int32) < (14 : Int32))) q)
  intro _
  refine waloadN C X32 f3_44 rfl rfl ?_
  refine wget C X32 (host := "") (Or.inl (tw_12 hw)) Via.refl e32 ((q28.other W30 (Or.inl ne_11)).other W32 (Or.inl ne_11)) f3_45 ?_
  intro T33 X33 e33
  refine wiloadN C X33 f3_48 rfl ?_
  refine wdconst0 C X33 f3_49 ?_
  refine wdastore C X33 e33 V32 f3_50 ⟨by decide, by decide⟩ 8 rfl (by rw [List.length_set, List.length_set, List.length_set, List.length_set, List.length_set, List.length_set, List.length_set, List.length_set, hlen]; decide) (((((((((ls.set 0 (.double FP.dconst0)).set 1 (.double FP.dconst0)).set 2 (.double FP.dconst0)).set 3 (.double FP.dconst0)).set 4 (.double FP.dconst0)).set 5 (.double FP.dconst0)).set 6 (.double FP.dconst0)).set 7 (.double FP.dconst0)).set 8 (.double FP.dconst0)) rfl ?_
  intro T34 h34 sl34 w34 X34 e34 W34 V34
  have N34 := Fr.snoc X34 N32 ge_9
  refine wiinc C X34 f3_51 (9 : Int32) (by decide) rfl #[.val (.ref a), .val (.ref pt), .val (.int (4 : Int32)), .val (.int (9 : Int32))] rfl ?_
  refine wgoto C X34 f3_54 ?_
  refine wiloadN C X34 f3_33 rfl ?_
  refine wiconst C X34 f3_34 (2 : Int32) rfl ?_
  refine wiconst C X34 f3_35 (2 : Int32) rfl ?_
  refine wiloadN C X34 f3_36 rfl ?_
  refine wimul C X34 f3_37 ?_
  refine own_foldI (z := (8 : Int32)) (by decide) ?_
  refine wiconst C X34 f3_38 (1 : Int32) rfl ?_
  refine wisub C X34 f3_39 ?_
  refine own_foldI (z := (7 : Int32)) (by decide) ?_
  refine wimul C X34 f3_40 ?_
  refine own_foldI (z := (14 : Int32)) (by decide) ?_
  refine wicmp_ge C X34 f3_41 ?_ (fun q => absurd (by decide : ((9 : Int32) < (14 : Int32))) q)
  intro _
  refine waloadN C X34 f3_44 rfl rfl ?_
  have q35 := (((q28.other W30 (Or.inl ne_11)).other W32 (Or.inl ne_11)).other W34 (Or.inl ne_11))
  refine wget C X34 (host := "") (Or.inl (tw_12 hw)) Via.refl e34 q35 f3_45 ?_
  intro T36 X36 e36
  refine wiloadN C X36 f3_48 rfl ?_
  refine wdconst0 C X36 f3_49 ?_
  refine wdastore C X36 e36 V34 f3_50 ⟨by decide, by decide⟩ 9 rfl (by rw [List.length_set, List.length_set, List.length_set, List.length_set, List.length_set, List.length_set, List.length_set, List.length_set, List.length_set, hlen]; decide) ((((((((((ls.set 0 (.double FP.dconst0)).set 1 (.double FP.dconst0)).set 2 (.double FP.dconst0)).set 3 (.double FP.dconst0)).set 4 (.double FP.dconst0)).set 5 (.double FP.dconst0)).set 6 (.double FP.dconst0)).set 7 (.double FP.dconst0)).set 8 (.double FP.dconst0)).set 9 (.double FP.dconst0)) rfl ?_
  intro T37 h37 sl37 w37 X37 e37 W37 V37
  have N37 := Fr.snoc X37 N34 ge_9
  refine wiinc C X37 f3_51 (10 : Int32) (by decide) rfl #[.val (.ref a), .val (.ref pt), .val (.int (4 : Int32)), .val (.int (10 : Int32))] rfl ?_
  refine wgoto C X37 f3_54 ?_
  refine wiloadN C X37 f3_33 rfl ?_
  refine wiconst C X37 f3_34 (2 : Int32) rfl ?_
  refine wiconst C X37 f3_35 (2 : Int32) rfl ?_
  refine wiloadN C X37 f3_36 rfl ?_
  refine wimul C X37 f3_37 ?_
  refine own_foldI (z := (8 : Int32)) (by decide) ?_
  refine wiconst C X37 f3_38 (1 : Int32) rfl ?_
  refine wisub C X37 f3_39 ?_
  refine own_foldI (z := (7 : Int32)) (by decide) ?_
  refine wimul C X37 f3_40 ?_
  refine own_foldI (z := (14 : Int32)) (by decide) ?_
  refine wicmp_ge C X37 f3_41 ?_ (fun q => absurd (by decide : ((10 : Int32) < (14 : Int32))) q)
  intro _
  refine waloadN C X37 f3_44 rfl rfl ?_
  refine wget C X37 (host := "") (Or.inl (tw_12 hw)) Via.refl e37 (q35.other W37 (Or.inl ne_11)) f3_45 ?_
  intro T38 X38 e38
  refine wiloadN C X38 f3_48 rfl ?_
  refine wdconst0 C X38 f3_49 ?_
  refine wdastore C X38 e38 V37 f3_50 ⟨by decide, by decide⟩ 10 rfl (by rw [List.length_set, List.length_set, List.length_set, List.length_set, List.length_set, List.length_set, List.length_set, List.length_set, List.length_set, List.length_set, hlen]; decide) (((((((((((ls.set 0 (.double FP.dconst0)).set 1 (.double FP.dconst0)).set 2 (.double FP.dconst0)).set 3 (.double FP.dconst0)).set 4 (.double FP.dconst0)).set 5 (.double FP.dconst0)).set 6 (.double FP.dconst0)).set 7 (.double FP.dconst0)).set 8 (.double FP.dconst0)).set 9 (.double FP.dconst0)).set 10 (.double FP.dconst0)) rfl ?_
  intro T39 h39 sl39 w39 X39 e39 W39 V39
  have N39 := Fr.snoc X39 N37 ge_9
  refine wiinc C X39 f3_51 (11 : Int32) (by decide) rfl #[.val (.ref a), .val (.ref pt), .val (.int (4 : Int32)), .val (.int (11 : Int32))] rfl ?_
  refine wgoto C X39 f3_54 ?_
  refine wiloadN C X39 f3_33 rfl ?_
  refine wiconst C X39 f3_34 (2 : Int32) rfl ?_
  refine wiconst C X39 f3_35 (2 : Int32) rfl ?_
  refine wiloadN C X39 f3_36 rfl ?_
  refine wimul C X39 f3_37 ?_
  refine own_foldI (z := (8 : Int32)) (by decide) ?_
  refine wiconst C X39 f3_38 (1 : Int32) rfl ?_
  refine wisub C X39 f3_39 ?_
  refine own_foldI (z := (7 : Int32)) (by decide) ?_
  refine wimul C X39 f3_40 ?_
  refine own_foldI (z := (14 : Int32)) (by decide) ?_
  refine wicmp_ge C X39 f3_41 ?_ (fun q => absurd (by decide : ((11 : Int32) < (14 : Int32))) q)
  intro _
  refine waloadN C X39 f3_44 rfl rfl ?_
  refine wget C X39 (host := "") (Or.inl (tw_12 hw)) Via.refl e39 ((q35.other W37 (Or.inl ne_11)).other W39 (Or.inl ne_11)) f3_45 ?_
  intro T40 X40 e40
  refine wiloadN C X40 f3_48 rfl ?_
  refine wdconst0 C X40 f3_49 ?_
  refine wdastore C X40 e40 V39 f3_50 ⟨by decide, by decide⟩ 11 rfl (by rw [List.length_set, List.length_set, List.length_set, List.length_set, List.length_set, List.length_set, List.length_set, List.length_set, List.length_set, List.length_set, List.length_set, hlen]; decide) ((((((((((((ls.set 0 (.double FP.dconst0)).set 1 (.double FP.dconst0)).set 2 (.double FP.dconst0)).set 3 (.double FP.dconst0)).set 4 (.double FP.dconst0)).set 5 (.double FP.dconst0)).set 6 (.double FP.dconst0)).set 7 (.double FP.dconst0)).set 8 (.double FP.dconst0)).set 9 (.double FP.dconst0)).set 10 (.double FP.dconst0)).set 11 (.double FP.dconst0)) rfl ?_
  intro T41 h41 sl41 w41 X41 e41 W41 V41
  have N41 := Fr.snoc X41 N39 ge_9
  refine wiinc C X41 f3_51 (12 : Int32) (by decide) rfl #[.val (.ref a), .val (.ref pt), .val (.int (4 : Int32)), .val (.int (12 : Int32))] rfl ?_
  refine wgoto C X41 f3_54 ?_
  refine wiloadN C X41 f3_33 rfl ?_
  refine wiconst C X41 f3_34 (2 : Int32) rfl ?_
  refine wiconst C X41 f3_35 (2 : Int32) rfl ?_
  refine wiloadN C X41 f3_36 rfl ?_
  refine wimul C X41 f3_37 ?_
  refine own_foldI (z := (8 : Int32)) (by decide) ?_
  refine wiconst C X41 f3_38 (1 : Int32) rfl ?_
  refine wisub C X41 f3_39 ?_
  refine own_foldI (z := (7 : Int32)) (by decide) ?_
  refine wimul C X41 f3_40 ?_
  refine own_foldI (z := (14 : Int32)) (by decide) ?_
  refine wicmp_ge C X41 f3_41 ?_ (fun q => absurd (by decide : ((12 : Int32) < (14 : Int32))) q)
  intro _
  refine waloadN C X41 f3_44 rfl rfl ?_
  have q42 := (((q35.other W37 (Or.inl ne_11)).other W39 (Or.inl ne_11)).other W41 (Or.inl ne_11))
  refine wget C X41 (host := "") (Or.inl (tw_12 hw)) Via.refl e41 q42 f3_45 ?_
  intro T43 X43 e43
  refine wiloadN C X43 f3_48 rfl ?_
  refine wdconst0 C X43 f3_49 ?_
  refine wdastore C X43 e43 V41 f3_50 ⟨by decide, by decide⟩ 12 rfl (by rw [List.length_set, List.length_set, List.length_set, List.length_set, List.length_set, List.length_set, List.length_set, List.length_set, List.length_set, List.length_set, List.length_set, List.length_set, hlen]; decide) (((((((((((((ls.set 0 (.double FP.dconst0)).set 1 (.double FP.dconst0)).set 2 (.double FP.dconst0)).set 3 (.double FP.dconst0)).set 4 (.double FP.dconst0)).set 5 (.double FP.dconst0)).set 6 (.double FP.dconst0)).set 7 (.double FP.dconst0)).set 8 (.double FP.dconst0)).set 9 (.double FP.dconst0)).set 10 (.double FP.dconst0)).set 11 (.double FP.dconst0)).set 12 (.double FP.dconst0)) rfl ?_
  intro T44 h44 sl44 w44 X44 e44 W44 V44
  have N44 := Fr.snoc X44 N41 ge_9
  refine wiinc C X44 f3_51 (13 : Int32) (by decide) rfl #[.val (.ref a), .val (.ref pt), .val (.int (4 : Int32)), .val (.int (13 : Int32))] rfl ?_
  refine wgoto C X44 f3_54 ?_
  refine wiloadN C X44 f3_33 rfl ?_
  refine wiconst C X44 f3_34 (2 : Int32) rfl ?_
  refine wiconst C X44 f3_35 (2 : Int32) rfl ?_
  refine wiloadN C X44 f3_36 rfl ?_
  refine wimul C X44 f3_37 ?_
  refine own_foldI (z := (8 : Int32)) (by decide) ?_
  refine wiconst C X44 f3_38 (1 : Int32) rfl ?_
  refine wisub C X44 f3_39 ?_
  refine own_foldI (z := (7 : Int32)) (by decide) ?_
  refine wimul C X44 f3_40 ?_
  refine own_foldI (z := (14 : Int32)) (by decide) ?_
  refine wicmp_ge C X44 f3_41 ?_ (fun q => absurd (by decide : ((13 : Int32) < (14 : Int32))) q)
  intro _
  refine waloadN C X44 f3_44 rfl rfl ?_
  refine wget C X44 (host := "") (Or.inl (tw_12 hw)) Via.refl e44 (q42.other W44 (Or.inl ne_11)) f3_45 ?_
  intro T45 X45 e45
  refine wiloadN C X45 f3_48 rfl ?_
  refine wdconst0 C X45 f3_49 ?_
  refine wdastore C X45 e45 V44 f3_50 ⟨by decide, by decide⟩ 13 rfl (by rw [List.length_set, List.length_set, List.length_set, List.length_set, List.length_set, List.length_set, List.length_set, List.length_set, List.length_set, List.length_set, List.length_set, List.length_set, List.length_set, hlen]; decide) ((((((((((((((ls.set 0 (.double FP.dconst0)).set 1 (.double FP.dconst0)).set 2 (.double FP.dconst0)).set 3 (.double FP.dconst0)).set 4 (.double FP.dconst0)).set 5 (.double FP.dconst0)).set 6 (.double FP.dconst0)).set 7 (.double FP.dconst0)).set 8 (.double FP.dconst0)).set 9 (.double FP.dconst0)).set 10 (.double FP.dconst0)).set 11 (.double FP.dconst0)).set 12 (.double FP.dconst0)).set 13 (.double FP.dconst0)) rfl ?_
  intro T46 h46 sl46 w46 X46 e46 W46 V46
  have N46 := Fr.snoc X46 N44 ge_9
  refine wiinc C X46 f3_51 (14 : Int32) (by decide) rfl #[.val (.ref a), .val (.ref pt), .val (.int (4 : Int32)), .val (.int (14 : Int32))] rfl ?_
  refine wgoto C X46 f3_54 ?_
  refine wiloadN C X46 f3_33 rfl ?_
  refine wiconst C X46 f3_34 (2 : Int32) rfl ?_
  refine wiconst C X46 f3_35 (2 : Int32) rfl ?_
  refine wiloadN C X46 f3_36 rfl ?_
  refine wimul C X46 f3_37 ?_
  refine own_foldI (z := (8 : Int32)) (by decide) ?_
  refine wiconst C X46 f3_38 (1 : Int32) rfl ?_
  refine wisub C X46 f3_39 ?_
  refine own_foldI (z := (7 : Int32)) (by decide) ?_
  refine wimul C X46 f3_40 ?_
  refine own_foldI (z := (14 : Int32)) (by decide) ?_
  refine wicmp_ge C X46 f3_41 (fun q => absurd q (by decide : ¬ ((14 : Int32) < (14 : Int32)))) ?_
  intro _
  refine wret C X46 f3_57 rfl (by decide) (by decide) ?_
  rw [e46]
  have q47 := ((((((((((((((((((((Keep.refl h0 [a, ph, pl]).wr W1 (Or.inl (List.mem_of_getElem? (i := 0) rfl))).wr W4 (Or.inl (List.mem_of_getElem? (i := 1) rfl))).wr W6 (Or.inl (List.mem_of_getElem? (i := 1) rfl))).wr W8 (Or.inl (List.mem_of_getElem? (i := 1) rfl))).wr W12 (Or.inl (List.mem_of_getElem? (i := 1) rfl))).wr W16 (Or.inl (List.mem_of_getElem? (i := 2) rfl))).wr W18 (Or.inl (List.mem_of_getElem? (i := 2) rfl))).wr W20 (Or.inl (List.mem_of_getElem? (i := 2) rfl))).wr W23 (Or.inl (List.mem_of_getElem? (i := 2) rfl))).wr W25 (Or.inl (List.mem_of_getElem? (i := 2) rfl))).wr W27 (Or.inl (List.mem_of_getElem? (i := 2) rfl))).wr W30 (Or.inl (List.mem_of_getElem? (i := 2) rfl))).wr W32 (Or.inl (List.mem_of_getElem? (i := 2) rfl))).wr W34 (Or.inl (List.mem_of_getElem? (i := 2) rfl))).wr W37 (Or.inl (List.mem_of_getElem? (i := 2) rfl))).wr W39 (Or.inl (List.mem_of_getElem? (i := 2) rfl))).wr W41 (Or.inl (List.mem_of_getElem? (i := 2) rfl))).wr W44 (Or.inl (List.mem_of_getElem? (i := 2) rfl))).wr W46 (Or.inl (List.mem_of_getElem? (i := 2) rfl)))
  have q48 := (((((((((((((((((((Exa_0.wr W1).wr W4).wr W6).wr W8).wr W12).wr W16).wr W18).wr W20).wr W23).wr W25).wr W27).wr W30).wr W32).wr W34).wr W37).wr W39).wr W41).wr W44).wr W46)
  have q49 := (((((((((((((((q9.other W12 (Or.inl ne_10)).other W16 (Or.inl ne_11)).other W18 (Or.inl ne_11)).other W20 (Or.inl ne_11)).other W23 (Or.inl ne_11)).other W25 (Or.inl ne_11)).other W27 (Or.inl ne_11)).other W30 (Or.inl ne_11)).other W32 (Or.inl ne_11)).other W34 (Or.inl ne_11)).other W37 (Or.inl ne_11)).other W39 (Or.inl ne_11)).other W41 (Or.inl ne_11)).other W44 (Or.inl ne_11)).other W46 (Or.inl ne_11))
  have q50 := ((((((((((((((((((Fw1.other W4 (Or.inl ne_10)).other W6 (Or.inl ne_10)).other W8 (Or.inl ne_10)).other W12 (Or.inl ne_10)).other W16 (Or.inl ne_11)).other W18 (Or.inl ne_11)).other W20 (Or.inl ne_11)).other W23 (Or.inl ne_11)).other W25 (Or.inl ne_11)).other W27 (Or.inl ne_11)).other W30 (Or.inl ne_11)).other W32 (Or.inl ne_11)).other W34 (Or.inl ne_11)).other W37 (Or.inl ne_11)).other W39 (Or.inl ne_11)).other W41 (Or.inl ne_11)).other W44 (Or.inl ne_11)).other W46 (Or.inl ne_11))
  have q51 := ((((((((((((((V12.other W16 ne_12).other W18 ne_12).other W20 ne_12).other W23 ne_12).other W25 ne_12).other W27 ne_12).other W30 ne_12).other W32 ne_12).other W34 ne_12).other W37 ne_12).other W39 ne_12).other W41 ne_12).other W44 ne_12).other W46 ne_12)
  exact ⟨rfl, N46, q47, q48, q49, q50, ((q42.other W44 (Or.inl ne_11)).other W46 (Or.inl ne_11)), q51, V46⟩
theorem f8_0 : Dec prog_12_method_4_code 0 (.aload_n 0) 1 1 := ⟨by decide +kernel, rfl⟩
theorem f8_1 : Dec prog_12_method_4_code 1 (.getfield 7) 3 4 := ⟨by decide +kernel, rfl⟩
theorem f8_4 : Dec prog_12_method_4_code 4 (.iload_n 1) 1 5 := ⟨by decide +kernel, rfl⟩
theorem f8_5 : Dec prog_12_method_4_code 5 (.daload) 1 6 := ⟨by decide +kernel, rfl⟩
theorem f8_6 : Dec prog_12_method_4_code 6 (.dstore_n 2) 1 7 := ⟨by decide +kernel, rfl⟩
theorem f8_7 : Dec prog_12_method_4_code 7 (.dconst 0) 1 8 := ⟨by decide +kernel, rfl⟩
theorem f8_8 : Dec prog_12_method_4_code 8 (.dstore 4) 2 10 := ⟨by decide +kernel, rfl⟩
theorem f8_10 : Dec prog_12_method_4_code 10 (.iconst 0) 1 11 := ⟨by decide +kernel, rfl⟩
theorem f8_11 : Dec prog_12_method_4_code 11 (.istore 6) 2 13 := ⟨by decide +kernel, rfl⟩
theorem f8_13 : Dec prog_12_method_4_code 13 (.iconst 0) 1 14 := ⟨by decide +kernel, rfl⟩
theorem f8_14 : Dec prog_12_method_4_code 14 (.istore 7) 2 16 := ⟨by decide +kernel, rfl⟩
theorem f8_16 : Dec prog_12_method_4_code 16 (.aload_n 0) 1 17 := ⟨by decide +kernel, rfl⟩
theorem f8_17 : Dec prog_12_method_4_code 17 (.getfield 16) 3 20 := ⟨by decide +kernel, rfl⟩
theorem f8_20 : Dec prog_12_method_4_code 20 (.iconst 1) 1 21 := ⟨by decide +kernel, rfl⟩
theorem f8_21 : Dec prog_12_method_4_code 21 (.isub) 1 22 := ⟨by decide +kernel, rfl⟩
theorem f8_22 : Dec prog_12_method_4_code 22 (.istore 8) 2 24 := ⟨by decide +kernel, rfl⟩
theorem f8_24 : Dec prog_12_method_4_code 24 (.dload 4) 2 26 := ⟨by decide +kernel, rfl⟩
theorem f8_26 : Dec prog_12_method_4_code 26 (.aload_n 0) 1 27 := ⟨by decide +kernel, rfl⟩
theorem f8_27 : Dec prog_12_method_4_code 27 (.getfield 13) 3 30 := ⟨by decide +kernel, rfl⟩
theorem f8_30 : Dec prog_12_method_4_code 30 (.iconst 2) 1 31 := ⟨by decide +kernel, rfl⟩
theorem f8_31 : Dec prog_12_method_4_code 31 (.iload 6) 2 33 := ⟨by decide +kernel, rfl⟩
theorem f8_33 : Dec prog_12_method_4_code 33 (.imul) 1 34 := ⟨by decide +kernel, rfl⟩
theorem f8_34 : Dec prog_12_method_4_code 34 (.daload) 1 35 := ⟨by decide +kernel, rfl⟩
theorem f8_35 : Dec prog_12_method_4_code 35 (.dload_n 2) 1 36 := ⟨by decide +kernel, rfl⟩
theorem f8_36 : Dec prog_12_method_4_code 36 (.aload_n 0) 1 37 := ⟨by decide +kernel, rfl⟩
theorem f8_37 : Dec prog_12_method_4_code 37 (.getfield 13) 3 40 := ⟨by decide +kernel, rfl⟩
theorem f8_40 : Dec prog_12_method_4_code 40 (.iconst 2) 1 41 := ⟨by decide +kernel, rfl⟩
theorem f8_41 : Dec prog_12_method_4_code 41 (.iload 6) 2 43 := ⟨by decide +kernel, rfl⟩
theorem f8_43 : Dec prog_12_method_4_code 43 (.imul) 1 44 := ⟨by decide +kernel, rfl⟩
theorem f8_44 : Dec prog_12_method_4_code 44 (.iconst 1) 1 45 := ⟨by decide +kernel, rfl⟩
theorem f8_45 : Dec prog_12_method_4_code 45 (.iadd) 1 46 := ⟨by decide +kernel, rfl⟩
theorem f8_46 : Dec prog_12_method_4_code 46 (.daload) 1 47 := ⟨by decide +kernel, rfl⟩
theorem f8_47 : Dec prog_12_method_4_code 47 (.dadd) 1 48 := ⟨by decide +kernel, rfl⟩
theorem f8_48 : Dec prog_12_method_4_code 48 (.dmul) 1 49 := ⟨by decide +kernel, rfl⟩
theorem f8_49 : Dec prog_12_method_4_code 49 (.invokestatic 22) 3 52 := ⟨by decide +kernel, rfl⟩
theorem f8_52 : Dec prog_12_method_4_code 52 (.dstore 4) 2 54 := ⟨by decide +kernel, rfl⟩
theorem f8_54 : Dec prog_12_method_4_code 54 (.iload 7) 2 56 := ⟨by decide +kernel, rfl⟩
theorem f8_56 : Dec prog_12_method_4_code 56 (.iload 8) 2 58 := ⟨by decide +kernel, rfl⟩
theorem f8_58 : DecJ prog_12_method_4_code 58 (.if_icmp .ne 10) 10 68 61 := ⟨by decide +kernel, by decide, by decide, rfl⟩
theorem f8_61 : Dec prog_12_method_4_code 61 (.ldc2_w 20) 3 64 := ⟨by decide +kernel, rfl⟩
theorem f8_64 : Dec prog_12_method_4_code 64 (.dload 4) 2 66 := ⟨by decide +kernel, rfl⟩
theorem f8_66 : Dec prog_12_method_4_code 66 (.dmul) 1 67 := ⟨by decide +kernel, rfl⟩
theorem f8_67 : Dec prog_12_method_4_code 67 (.dreturn) 1 68 := ⟨by decide +kernel, rfl⟩
theorem pn_8 : plainFor (⟨"com/example/arbor_center/arborcenter/objective/UpperEnvelope", "at", "(I)D"⟩ : MethodName) = true := plainFor_of_name (show plainName "com/example/arbor_center/arborcenter/objective/UpperEnvelope" = true by first | (simp [plainName, overriddenIn]; done) | decide +kernel)
theorem ef_8_1_0 (m : MethodId) (a : Addr) (ix : Int32) : entryFrame m #[(.ref a), (.int ix)] 10 = mkF m 0 #[.val (.ref a), .val (.int ix), .unset, .unset, .unset, .unset, .unset, .unset, .unset, .unset] [] := by first | (simp [entryFrame, mkF, argsToLocals, Value.category]; done) | rfl
def Q8_1_0 (Z : State) (a : Addr) (ix : Int32) (ph : Addr) (pl : Addr) (k1 : ClassId) (k2 : ClassId) (hp : List Value) (ls : List Value) (P : Nat → Int) (W : Nat → Int) (D : Nat → Int) (h0 : Heap) (n0 : Nat) (v9 : Option Value) (h9 : Heap) (L9 : List Loc) : Prop := ∃ (rv : UInt64), v9 = some (.double rv) ∧ Fr n0 L9 ∧ h9 = h0 ∧ (FP.Core.DInt (own_pm 3 0 0 (1 - 1) W D (P 0) 0) rv)
set_option maxRecDepth 65536 in
set_option maxHeartbeats 40000000 in
theorem rm8_1_0 (l : Launch) (Z : State) (a0 : Array Value) (hw : ∀ d ∈ tables_1, d.before a0 Z = true) (ws : List Jvm.Cond) (a : Addr) (ix : Int32) (ph : Addr) (pl : Addr) (k1 : ClassId) (k2 : ClassId) (hp : List Value) (ls : List Value) (P : Nat → Int) (W : Nat → Int) (D : Nat → Int) (h0 : Heap) (n0 : Nat) (Z0 : n0 ≤ h0.size) (Fld_0 : Fld Z h0 a "com/example/arbor_center/arborcenter/objective/UpperEnvelope" "halfPoints" "[D" (.ref ph)) (Fld_1 : Fld Z h0 a "com/example/arbor_center/arborcenter/objective/UpperEnvelope" "count" "I" (.int (1 : Int32))) (Fld_2 : Fld Z h0 a "com/example/arbor_center/arborcenter/objective/UpperEnvelope" "lines" "[D" (.ref pl)) (Arv_3 : Arv Z h0 ph k1 .double (4 : Int32) hp (.double (0 : UInt64))) (Arv_4 : Arv Z h0 pl k2 .double (14 : Int32) ls (.double (0 : UInt64))) (hix : (ix = (0 : Int32))) (hL : (own_Ls ls W D)) (hP : (own_Ps hp P 1)) :
    MetFree l (⟨"com/example/arbor_center/arborcenter/objective/UpperEnvelope", "at", "(I)D"⟩ : MethodName) (head1 (Jvm.Cond.code (⟨"com/example/arbor_center/arborcenter/objective/UpperEnvelope", "at", "(I)D"⟩ : MethodName) prog_12_method_4_code 10 (some .double) :: ws) ({ frames := 1, cells := 0, slots := 0, locals := 15 } : Room)) (fun A9 U9 => A9 = #[(.ref a), (.int ix)] ∧ Z.Warmed39 U9.vm ∧ U9.heap = h0) (fun _ _ _ _ _ => True) (fun _ U9 o9 V9 => ∃ v9 L9, o9 = .returned v9 ∧ (Q8_1_0 Z a ix ph pl k1 k2 hp ls P W D h0 n0) v9 V9.heap L9 ∧ FrameEnd U9 o9 V9 L9 ({ frames := 1, cells := 0, slots := 0, locals := 15 } : Room).cells ({ frames := 1, cells := 0, slots := 0, locals := 15 } : Room).slots) := by
  refine met_of (Q := (Q8_1_0 Z a ix ph pl k1 k2 hp ls P W D h0 n0)) pn_8 ?_
  intro p e s m below meth c T0 C X0 e0
  have N0 := Fr.nil n0
  refine Go.cast (ef_8_1_0 m a ix) ?_
  subst hix
  obtain ⟨px, gx, hx⟩ := hP.2 0 (by decide)
  obtain ⟨u0, v0, gu0, gv0, hl0⟩ := hL.2 0 (by decide)
  refine waloadN C X0 f8_0 rfl rfl ?_
  refine wget C X0 (host := "") (Or.inl (tw_10 hw)) Via.refl e0 Fld_0 f8_1 ?_
  intro T1 X1 e1
  refine wiloadN C X1 f8_4 rfl ?_
  refine wdaload C X1 e1 Arv_3 f8_5 ⟨by decide, by decide⟩ (i := 0) rfl (v := px) gx ?_
  refine wdstoreN C X1 f8_6 #[.val (.ref a), .val (.int (0 : Int32)), .val (.double px), .second, .unset, .unset, .unset, .unset, .unset, .unset] rfl ?_
  refine wdconst0 C X1 f8_7 ?_
  refine wdstore C X1 f8_8 #[.val (.ref a), .val (.int (0 : Int32)), .val (.double px), .second, .val (.double FP.dconst0), .second, .unset, .unset, .unset, .unset] rfl ?_
  refine wiconst C X1 f8_10 (0 : Int32) rfl ?_
  refine wistore C X1 f8_11 #[.val (.ref a), .val (.int (0 : Int32)), .val (.double px), .second, .val (.double FP.dconst0), .second, .val (.int (0 : Int32)), .unset, .unset, .unset] rfl ?_
  refine wiconst C X1 f8_13 (0 : Int32) rfl ?_
  refine wistore C X1 f8_14 #[.val (.ref a), .val (.int (0 : Int32)), .val (.double px), .second, .val (.double FP.dconst0), .second, .val (.int (0 : Int32)), .val (.int (0 : Int32)), .unset, .unset] rfl ?_
  refine waloadN C X1 f8_16 rfl rfl ?_
  refine wget C X1 (host := "") (Or.inl (tw_19 hw)) Via.refl e1 Fld_1 f8_17 ?_
  intro T2 X2 e2
  refine wiconst C X2 f8_20 (1 : Int32) rfl ?_
  refine wisub C X2 f8_21 ?_
  refine own_foldI (z := (0 : Int32)) (by decide) ?_
  refine wistore C X2 f8_22 #[.val (.ref a), .val (.int (0 : Int32)), .val (.double px), .second, .val (.double FP.dconst0), .second, .val (.int (0 : Int32)), .val (.int (0 : Int32)), .val (.int (0 : Int32)), .unset] rfl ?_
  refine wdload C X2 f8_24 rfl ?_
  refine waloadN C X2 f8_26 rfl rfl ?_
  refine wget C X2 (host := "") (Or.inl (tw_12 hw)) Via.refl e2 Fld_2 f8_27 ?_
  intro T3 X3 e3
  refine wiconst C X3 f8_30 (2 : Int32) rfl ?_
  refine wiload C X3 f8_31 rfl ?_
  refine wimul C X3 f8_33 ?_
  refine own_foldI (z := (0 : Int32)) (by decide) ?_
  refine wdaload C X3 e3 Arv_4 f8_34 ⟨by decide, by decide⟩ (i := 0) rfl (v := u0) gu0 ?_
  refine wdloadN C X3 f8_35 rfl ?_
  refine waloadN C X3 f8_36 rfl rfl ?_
  refine wget C X3 (host := "") (Or.inl (tw_12 hw)) Via.refl e3 Fld_2 f8_37 ?_
  intro T4 X4 e4
  refine wiconst C X4 f8_40 (2 : Int32) rfl ?_
  refine wiload C X4 f8_41 rfl ?_
  refine wimul C X4 f8_43 ?_
  refine own_foldI (z := (0 : Int32)) (by decide) ?_
  refine wiconst C X4 f8_44 (1 : Int32) rfl ?_
  refine wiadd C X4 f8_45 ?_
  refine own_foldI (z := (1 : Int32)) (by decide) ?_
  refine wdaload C X4 e4 Arv_4 f8_46 ⟨by decide, by decide⟩ (i := 1) rfl (v := v0) gv0 ?_
  refine wdadd C X4 f8_47 (v := (FP.dadd px v0)) rfl (own_H_nn (own_pd hx hl0)) ?_
  refine wdmul C X4 f8_48 (v := (FP.dmul u0 (FP.dadd px v0))) rfl (own_H_nn (own_lv hx hl0)) ?_
  refine wmaxD C X4 (tw_43 hw) (tw_44 hw) (tw_45 hw) (tw_46 hw) e4 f8_49 (own_H_nn own_H_0) (own_H_nn (own_lv hx hl0)) rfl (W := 0) (Nat.le_of_eq rfl) (by decide) (by decide) (by decide) (by decide) ?_
  intro T5 X5 e5
  refine wdstore C X5 f8_52 #[.val (.ref a), .val (.int (0 : Int32)), .val (.double px), .second, .val (.double (Jvm.Native.java_lang_Math.nans.pick64 true FP.dconst0 (FP.dmul u0 (FP.dadd px v0)))), .second, .val (.int (0 : Int32)), .val (.int (0 : Int32)), .val (.int (0 : Int32)), .unset] rfl ?_
  refine wiload C X5 f8_54 rfl ?_
  refine wiload C X5 f8_56 rfl ?_
  refine wicmp_ne C X5 f8_58 ?_ (fun q => absurd (by decide : ((0 : Int32) = (0 : Int32))) q)
  intro _
  refine wldc2D C X5 (tw_21 hw) f8_61 ?_
  refine wdload C X5 f8_64 rfl ?_
  refine wdmul C X5 f8_66 (v := (FP.dmul (4611686018427387904 : UInt64) (Jvm.Native.java_lang_Math.nans.pick64 true FP.dconst0 (FP.dmul u0 (FP.dadd px v0))))) rfl (own_nn (own_H_dbl (own_H_max own_H_0 (own_lv hx hl0)) (by have z0 := own_lvb hx hl0; omega))) ?_
  refine wdret C X5 f8_67 rfl (by decide) (by decide) ?_
  rw [e5]
  exact ⟨(FP.dmul (4611686018427387904 : UInt64) (Jvm.Native.java_lang_Math.nans.pick64 true FP.dconst0 (FP.dmul u0 (FP.dadd px v0)))), rfl, N0, rfl, (by have z0 := own_lvb hx hl0; simp only [own_pm]; exact own_di (own_H_dbl (own_H_max own_H_0 (own_lv hx hl0)) (by omega)) (by simp; omega))⟩
theorem f8_68 : Dec prog_12_method_4_code 68 (.iload 7) 2 70 := ⟨by decide +kernel, rfl⟩
theorem f8_70 : Dec prog_12_method_4_code 70 (.iload 8) 2 72 := ⟨by decide +kernel, rfl⟩
theorem f8_72 : Dec prog_12_method_4_code 72 (.iadd) 1 73 := ⟨by decide +kernel, rfl⟩
theorem f8_73 : Dec prog_12_method_4_code 73 (.iconst 1) 1 74 := ⟨by decide +kernel, rfl⟩
theorem f8_74 : Dec prog_12_method_4_code 74 (.iushr) 1 75 := ⟨by decide +kernel, rfl⟩
theorem f8_75 : Dec prog_12_method_4_code 75 (.istore 9) 2 77 := ⟨by decide +kernel, rfl⟩
theorem f8_77 : Dec prog_12_method_4_code 77 (.iload_n 1) 1 78 := ⟨by decide +kernel, rfl⟩
theorem f8_78 : Dec prog_12_method_4_code 78 (.iload 9) 2 80 := ⟨by decide +kernel, rfl⟩
theorem f8_80 : DecJ prog_12_method_4_code 80 (.if_icmp .gt 16) 16 96 83 := ⟨by decide +kernel, by decide, by decide, rfl⟩
theorem f8_83 : Dec prog_12_method_4_code 83 (.iload 6) 2 85 := ⟨by decide +kernel, rfl⟩
theorem f8_85 : Dec prog_12_method_4_code 85 (.iconst 1) 1 86 := ⟨by decide +kernel, rfl⟩
theorem f8_86 : Dec prog_12_method_4_code 86 (.iadd) 1 87 := ⟨by decide +kernel, rfl⟩
theorem f8_87 : Dec prog_12_method_4_code 87 (.istore 6) 2 89 := ⟨by decide +kernel, rfl⟩
theorem f8_89 : Dec prog_12_method_4_code 89 (.iload 9) 2 91 := ⟨by decide +kernel, rfl⟩
theorem f8_91 : Dec prog_12_method_4_code 91 (.istore 8) 2 93 := ⟨by decide +kernel, rfl⟩
theorem f8_93 : DecJ prog_12_method_4_code 93 (.goto 23) 23 116 96 := ⟨by decide +kernel, by decide, by decide, rfl⟩
theorem f8_116 : DecJ prog_12_method_4_code 116 (.goto (-92)) (-92) 24 119 := ⟨by decide +kernel, by decide, by decide, rfl⟩
theorem ef_8_2_0 (m : MethodId) (a : Addr) (ix : Int32) : entryFrame m #[(.ref a), (.int ix)] 10 = mkF m 0 #[.val (.ref a), .val (.int ix), .unset, .unset, .unset, .unset, .unset, .unset, .unset, .unset] [] := by first | (simp [entryFrame, mkF, argsToLocals, Value.category]; done) | rfl
def Q8_2_0 (Z : State) (a : Addr) (ix : Int32) (ph : Addr) (pl : Addr) (k1 : ClassId) (k2 : ClassId) (hp : List Value) (ls : List Value) (P : Nat → Int) (W : Nat → Int) (D : Nat → Int) (h0 : Heap) (n0 : Nat) (v9 : Option Value) (h9 : Heap) (L9 : List Loc) : Prop := ∃ (rv : UInt64), v9 = some (.double rv) ∧ Fr n0 L9 ∧ h9 = h0 ∧ (FP.Core.DInt (own_pm 3 0 0 (2 - 1) W D (P 0) 0) rv)
set_option maxRecDepth 65536 in
set_option maxHeartbeats 40000000 in
theorem rm8_2_0 (l : Launch) (Z : State) (a0 : Array Value) (hw : ∀ d ∈ tables_1, d.before a0 Z = true) (ws : List Jvm.Cond) (a : Addr) (ix : Int32) (ph : Addr) (pl : Addr) (k1 : ClassId) (k2 : ClassId) (hp : List Value) (ls : List Value) (P : Nat → Int) (W : Nat → Int) (D : Nat → Int) (h0 : Heap) (n0 : Nat) (Z0 : n0 ≤ h0.size) (Fld_0 : Fld Z h0 a "com/example/arbor_center/arborcenter/objective/UpperEnvelope" "halfPoints" "[D" (.ref ph)) (Fld_1 : Fld Z h0 a "com/example/arbor_center/arborcenter/objective/UpperEnvelope" "count" "I" (.int (2 : Int32))) (Fld_2 : Fld Z h0 a "com/example/arbor_center/arborcenter/objective/UpperEnvelope" "lines" "[D" (.ref pl)) (Arv_3 : Arv Z h0 ph k1 .double (4 : Int32) hp (.double (0 : UInt64))) (Arv_4 : Arv Z h0 pl k2 .double (14 : Int32) ls (.double (0 : UInt64))) (hix : (ix = (0 : Int32))) (hL : (own_Ls ls W D)) (hP : (own_Ps hp P 2)) :
    MetFree l (⟨"com/example/arbor_center/arborcenter/objective/UpperEnvelope", "at", "(I)D"⟩ : MethodName) (head1 (Jvm.Cond.code (⟨"com/example/arbor_center/arborcenter/objective/UpperEnvelope", "at", "(I)D"⟩ : MethodName) prog_12_method_4_code 10 (some .double) :: ws) ({ frames := 1, cells := 0, slots := 0, locals := 15 } : Room)) (fun A9 U9 => A9 = #[(.ref a), (.int ix)] ∧ Z.Warmed39 U9.vm ∧ U9.heap = h0) (fun _ _ _ _ _ => True) (fun _ U9 o9 V9 => ∃ v9 L9, o9 = .returned v9 ∧ (Q8_2_0 Z a ix ph pl k1 k2 hp ls P W D h0 n0) v9 V9.heap L9 ∧ FrameEnd U9 o9 V9 L9 ({ frames := 1, cells := 0, slots := 0, locals := 15 } : Room).cells ({ frames := 1, cells := 0, slots := 0, locals := 15 } : Room).slots) := by
  refine met_of (Q := (Q8_2_0 Z a ix ph pl k1 k2 hp ls P W D h0 n0)) pn_8 ?_
  intro p e s m below meth c T0 C X0 e0
  have N0 := Fr.nil n0
  refine Go.cast (ef_8_2_0 m a ix) ?_
  subst hix
  obtain ⟨px, gx, hx⟩ := hP.2 0 (by decide)
  obtain ⟨u0, v0, gu0, gv0, hl0⟩ := hL.2 0 (by decide)
  obtain ⟨u1, v1, gu1, gv1, hl1⟩ := hL.2 1 (by decide)
  refine waloadN C X0 f8_0 rfl rfl ?_
  refine wget C X0 (host := "") (Or.inl (tw_10 hw)) Via.refl e0 Fld_0 f8_1 ?_
  intro T1 X1 e1
  refine wiloadN C X1 f8_4 rfl ?_
  refine wdaload C X1 e1 Arv_3 f8_5 ⟨by decide, by decide⟩ (i := 0) rfl (v := px) gx ?_
  refine wdstoreN C X1 f8_6 #[.val (.ref a), .val (.int (0 : Int32)), .val (.double px), .second, .unset, .unset, .unset, .unset, .unset, .unset] rfl ?_
  refine wdconst0 C X1 f8_7 ?_
  refine wdstore C X1 f8_8 #[.val (.ref a), .val (.int (0 : Int32)), .val (.double px), .second, .val (.double FP.dconst0), .second, .unset, .unset, .unset, .unset] rfl ?_
  refine wiconst C X1 f8_10 (0 : Int32) rfl ?_
  refine wistore C X1 f8_11 #[.val (.ref a), .val (.int (0 : Int32)), .val (.double px), .second, .val (.double FP.dconst0), .second, .val (.int (0 : Int32)), .unset, .unset, .unset] rfl ?_
  refine wiconst C X1 f8_13 (0 : Int32) rfl ?_
  refine wistore C X1 f8_14 #[.val (.ref a), .val (.int (0 : Int32)), .val (.double px), .second, .val (.double FP.dconst0), .second, .val (.int (0 : Int32)), .val (.int (0 : Int32)), .unset, .unset] rfl ?_
  refine waloadN C X1 f8_16 rfl rfl ?_
  refine wget C X1 (host := "") (Or.inl (tw_19 hw)) Via.refl e1 Fld_1 f8_17 ?_
  intro T2 X2 e2
  refine wiconst C X2 f8_20 (1 : Int32) rfl ?_
  refine wisub C X2 f8_21 ?_
  refine own_foldI (z := (1 : Int32)) (by decide) ?_
  refine wistore C X2 f8_22 #[.val (.ref a), .val (.int (0 : Int32)), .val (.double px), .second, .val (.double FP.dconst0), .second, .val (.int (0 : Int32)), .val (.int (0 : Int32)), .val (.int (1 : Int32)), .unset] rfl ?_
  refine wdload C X2 f8_24 rfl ?_
  refine waloadN C X2 f8_26 rfl rfl ?_
  refine wget C X2 (host := "") (Or.inl (tw_12 hw)) Via.refl e2 Fld_2 f8_27 ?_
  intro T3 X3 e3
  refine wiconst C X3 f8_30 (2 : Int32) rfl ?_
  refine wiload C X3 f8_31 rfl ?_
  refine wimul C X3 f8_33 ?_
  refine own_foldI (z := (0 : Int32)) (by decide) ?_
  refine wdaload C X3 e3 Arv_4 f8_34 ⟨by decide, by decide⟩ (i := 0) rfl (v := u0) gu0 ?_
  refine wdloadN C X3 f8_35 rfl ?_
  refine waloadN C X3 f8_36 rfl rfl ?_
  refine wget C X3 (host := "") (Or.inl (tw_12 hw)) Via.refl e3 Fld_2 f8_37 ?_
  intro T4 X4 e4
  refine wiconst C X4 f8_40 (2 : Int32) rfl ?_
  refine wiload C X4 f8_41 rfl ?_
  refine wimul C X4 f8_43 ?_
  refine own_foldI (z := (0 : Int32)) (by decide) ?_
  refine wiconst C X4 f8_44 (1 : Int32) rfl ?_
  refine wiadd C X4 f8_45 ?_
  refine own_foldI (z := (1 : Int32)) (by decide) ?_
  refine wdaload C X4 e4 Arv_4 f8_46 ⟨by decide, by decide⟩ (i := 1) rfl (v := v0) gv0 ?_
  refine wdadd C X4 f8_47 (v := (FP.dadd px v0)) rfl (own_H_nn (own_pd hx hl0)) ?_
  refine wdmul C X4 f8_48 (v := (FP.dmul u0 (FP.dadd px v0))) rfl (own_H_nn (own_lv hx hl0)) ?_
  refine wmaxD C X4 (tw_43 hw) (tw_44 hw) (tw_45 hw) (tw_46 hw) e4 f8_49 (own_H_nn own_H_0) (own_H_nn (own_lv hx hl0)) rfl (W := 0) (Nat.le_of_eq rfl) (by decide) (by decide) (by decide) (by decide) ?_
  intro T5 X5 e5
  refine wdstore C X5 f8_52 #[.val (.ref a), .val (.int (0 : Int32)), .val (.double px), .second, .val (.double (Jvm.Native.java_lang_Math.nans.pick64 true FP.dconst0 (FP.dmul u0 (FP.dadd px v0)))), .second, .val (.int (0 : Int32)), .val (.int (0 : Int32)), .val (.int (1 : Int32)), .unset] rfl ?_
  refine wiload C X5 f8_54 rfl ?_
  refine wiload C X5 f8_56 rfl ?_
  refine wicmp_ne C X5 f8_58 (fun q => absurd q (by decide : ¬ ((0 : Int32) = (1 : Int32)))) ?_
  intro _
  refine wiload C X5 f8_68 rfl ?_
  refine wiload C X5 f8_70 rfl ?_
  refine wiadd C X5 f8_72 ?_
  refine own_foldI (z := (1 : Int32)) (by decide) ?_
  refine wiconst C X5 f8_73 (1 : Int32) rfl ?_
  refine wiushr C X5 f8_74 ?_
  refine own_foldI (z := (0 : Int32)) (by decide) ?_
  refine wistore C X5 f8_75 #[.val (.ref a), .val (.int (0 : Int32)), .val (.double px), .second, .val (.double (Jvm.Native.java_lang_Math.nans.pick64 true FP.dconst0 (FP.dmul u0 (FP.dadd px v0)))), .second, .val (.int (0 : Int32)), .val (.int (0 : Int32)), .val (.int (1 : Int32)), .val (.int (0 : Int32))] rfl ?_
  refine wiloadN C X5 f8_77 rfl ?_
  refine wiload C X5 f8_78 rfl ?_
  refine wicmp_gt C X5 f8_80 (fun q => absurd q (by decide : ¬ ((0 : Int32) < (0 : Int32)))) ?_
  intro _
  refine wiload C X5 f8_83 rfl ?_
  refine wiconst C X5 f8_85 (1 : Int32) rfl ?_
  refine wiadd C X5 f8_86 ?_
  refine own_foldI (z := (1 : Int32)) (by decide) ?_
  refine wistore C X5 f8_87 #[.val (.ref a), .val (.int (0 : Int32)), .val (.double px), .second, .val (.double (Jvm.Native.java_lang_Math.nans.pick64 true FP.dconst0 (FP.dmul u0 (FP.dadd px v0)))), .second, .val (.int (1 : Int32)), .val (.int (0 : Int32)), .val (.int (1 : Int32)), .val (.int (0 : Int32))] rfl ?_
  refine wiload C X5 f8_89 rfl ?_
  refine wistore C X5 f8_91 #[.val (.ref a), .val (.int (0 : Int32)), .val (.double px), .second, .val (.double (Jvm.Native.java_lang_Math.nans.pick64 true FP.dconst0 (FP.dmul u0 (FP.dadd px v0)))), .second, .val (.int (1 : Int32)), .val (.int (0 : Int32)), .val (.int (0 : Int32)), .val (.int (0 : Int32))] rfl ?_
  refine wgoto C X5 f8_93 ?_
  refine wgoto C X5 f8_116 ?_
  refine wdload C X5 f8_24 rfl ?_
  refine waloadN C X5 f8_26 rfl rfl ?_
  refine wget C X5 (host := "") (Or.inl (tw_12 hw)) Via.refl e5 Fld_2 f8_27 ?_
  intro T6 X6 e6
  refine wiconst C X6 f8_30 (2 : Int32) rfl ?_
  refine wiload C X6 f8_31 rfl ?_
  refine wimul C X6 f8_33 ?_
  refine own_foldI (z := (2 : Int32)) (by decide) ?_
  refine wdaload C X6 e6 Arv_4 f8_34 ⟨by decide, by decide⟩ (i := 2) rfl (v := u1) gu1 ?_
  refine wdloadN C X6 f8_35 rfl ?_
  refine waloadN C X6 f8_36 rfl rfl ?_
  refine wget C X6 (host := "") (Or.inl (tw_12 hw)) Via.refl e6 Fld_2 f8_37 ?_
  intro T7 X7 e7
  refine wiconst C X7 f8_40 (2 : Int32) rfl ?_
  refine wiload C X7 f8_41 rfl ?_
  refine wimul C X7 f8_43 ?_
  refine own_foldI (z := (2 : Int32)) (by decide) ?_
  refine wiconst C X7 f8_44 (1 : Int32) rfl ?_
  refine wiadd C X7 f8_45 ?_
  refine own_foldI (z := (3 : Int32)) (by decide) ?_
  refine wdaload C X7 e7 Arv_4 f8_46 ⟨by decide, by decide⟩ (i := 3) rfl (v := v1) gv1 ?_
  refine wdadd C X7 f8_47 (v := (FP.dadd px v1)) rfl (own_H_nn (own_pd hx hl1)) ?_
  refine wdmul C X7 f8_48 (v := (FP.dmul u1 (FP.dadd px v1))) rfl (own_H_nn (own_lv hx hl1)) ?_
  refine wmaxD C X7 (tw_43 hw) (tw_44 hw) (tw_45 hw) (tw_46 hw) e7 f8_49 (own_H_nn (own_H_max own_H_0 (own_lv hx hl0))) (own_H_nn (own_lv hx hl1)) rfl (W := 0) (Nat.le_of_eq rfl) (by decide) (by decide) (by decide) (by decide) ?_
  intro T8 X8 e8
  refine wdstore C X8 f8_52 #[.val (.ref a), .val (.int (0 : Int32)), .val (.double px), .second, .val (.double (Jvm.Native.java_lang_Math.nans.pick64 true (Jvm.Native.java_lang_Math.nans.pick64 true FP.dconst0 (FP.dmul u0 (FP.dadd px v0))) (FP.dmul u1 (FP.dadd px v1)))), .second, .val (.int (1 : Int32)), .val (.int (0 : Int32)), .val (.int (0 : Int32)), .val (.int (0 : Int32))] rfl ?_
  refine wiload C X8 f8_54 rfl ?_
  refine wiload C X8 f8_56 rfl ?_
  refine wicmp_ne C X8 f8_58 ?_ (fun q => absurd (by decide : ((0 : Int32) = (0 : Int32))) q)
  intro _
  refine wldc2D C X8 (tw_21 hw) f8_61 ?_
  refine wdload C X8 f8_64 rfl ?_
  refine wdmul C X8 f8_66 (v := (FP.dmul (4611686018427387904 : UInt64) (Jvm.Native.java_lang_Math.nans.pick64 true (Jvm.Native.java_lang_Math.nans.pick64 true FP.dconst0 (FP.dmul u0 (FP.dadd px v0))) (FP.dmul u1 (FP.dadd px v1))))) rfl (own_nn (own_H_dbl (own_H_max (own_H_max own_H_0 (own_lv hx hl0)) (own_lv hx hl1)) (by have z0 := own_lvb hx hl0; have z1 := own_lvb hx hl1; omega))) ?_
  refine wdret C X8 f8_67 rfl (by decide) (by decide) ?_
  rw [e8]
  exact ⟨(FP.dmul (4611686018427387904 : UInt64) (Jvm.Native.java_lang_Math.nans.pick64 true (Jvm.Native.java_lang_Math.nans.pick64 true FP.dconst0 (FP.dmul u0 (FP.dadd px v0))) (FP.dmul u1 (FP.dadd px v1)))), rfl, N0, rfl, (by have z0 := own_lvb hx hl0; have z1 := own_lvb hx hl1; simp only [own_pm]; exact own_di (own_H_dbl (own_H_max (own_H_max own_H_0 (own_lv hx hl0)) (own_lv hx hl1)) (by omega)) (by simp; omega))⟩
theorem f8_96 : Dec prog_12_method_4_code 96 (.iload 6) 2 98 := ⟨by decide +kernel, rfl⟩
theorem f8_98 : Dec prog_12_method_4_code 98 (.iconst 2) 1 99 := ⟨by decide +kernel, rfl⟩
theorem f8_99 : Dec prog_12_method_4_code 99 (.iload 9) 2 101 := ⟨by decide +kernel, rfl⟩
theorem f8_101 : Dec prog_12_method_4_code 101 (.iload 7) 2 103 := ⟨by decide +kernel, rfl⟩
theorem f8_103 : Dec prog_12_method_4_code 103 (.isub) 1 104 := ⟨by decide +kernel, rfl⟩
theorem f8_104 : Dec prog_12_method_4_code 104 (.iconst 1) 1 105 := ⟨by decide +kernel, rfl⟩
theorem f8_105 : Dec prog_12_method_4_code 105 (.iadd) 1 106 := ⟨by decide +kernel, rfl⟩
theorem f8_106 : Dec prog_12_method_4_code 106 (.imul) 1 107 := ⟨by decide +kernel, rfl⟩
theorem f8_107 : Dec prog_12_method_4_code 107 (.iadd) 1 108 := ⟨by decide +kernel, rfl⟩
theorem f8_108 : Dec prog_12_method_4_code 108 (.istore 6) 2 110 := ⟨by decide +kernel, rfl⟩
theorem f8_110 : Dec prog_12_method_4_code 110 (.iload 9) 2 112 := ⟨by decide +kernel, rfl⟩
theorem f8_112 : Dec prog_12_method_4_code 112 (.iconst 1) 1 113 := ⟨by decide +kernel, rfl⟩
theorem f8_113 : Dec prog_12_method_4_code 113 (.iadd) 1 114 := ⟨by decide +kernel, rfl⟩
theorem f8_114 : Dec prog_12_method_4_code 114 (.istore 7) 2 116 := ⟨by decide +kernel, rfl⟩
theorem ef_8_2_1 (m : MethodId) (a : Addr) (ix : Int32) : entryFrame m #[(.ref a), (.int ix)] 10 = mkF m 0 #[.val (.ref a), .val (.int ix), .unset, .unset, .unset, .unset, .unset, .unset, .unset, .unset] [] := by first | (simp [entryFrame, mkF, argsToLocals, Value.category]; done) | rfl
def Q8_2_1 (Z : State) (a : Addr) (ix : Int32) (ph : Addr) (pl : Addr) (k1 : ClassId) (k2 : ClassId) (hp : List Value) (ls : List Value) (P : Nat → Int) (W : Nat → Int) (D : Nat → Int) (h0 : Heap) (n0 : Nat) (v9 : Option Value) (h9 : Heap) (L9 : List Loc) : Prop := ∃ (rv : UInt64), v9 = some (.double rv) ∧ Fr n0 L9 ∧ h9 = h0 ∧ (FP.Core.DInt (own_pm 3 0 0 (2 - 1) W D (P 1) 1) rv)
set_option maxRecDepth 65536 in
set_option maxHeartbeats 40000000 in
theorem rm8_2_1 (l : Launch) (Z : State) (a0 : Array Value) (hw : ∀ d ∈ tables_1, d.before a0 Z = true) (ws : List Jvm.Cond) (a : Addr) (ix : Int32) (ph : Addr) (pl : Addr) (k1 : ClassId) (k2 : ClassId) (hp : List Value) (ls : List Value) (P : Nat → Int) (W : Nat → Int) (D : Nat → Int) (h0 : Heap) (n0 : Nat) (Z0 : n0 ≤ h0.size) (Fld_0 : Fld Z h0 a "com/example/arbor_center/arborcenter/objective/UpperEnvelope" "halfPoints" "[D" (.ref ph)) (Fld_1 : Fld Z h0 a "com/example/arbor_center/arborcenter/objective/UpperEnvelope" "count" "I" (.int (2 : Int32))) (Fld_2 : Fld Z h0 a "com/example/arbor_center/arborcenter/objective/UpperEnvelope" "lines" "[D" (.ref pl)) (Arv_3 : Arv Z h0 ph k1 .double (4 : Int32) hp (.double (0 : UInt64))) (Arv_4 : Arv Z h0 pl k2 .double (14 : Int32) ls (.double (0 : UInt64))) (hix : (ix = (1 : Int32))) (hL : (own_Ls ls W D)) (hP : (own_Ps hp P 2)) :
    MetFree l (⟨"com/example/arbor_center/arborcenter/objective/UpperEnvelope", "at", "(I)D"⟩ : MethodName) (head1 (Jvm.Cond.code (⟨"com/example/arbor_center/arborcenter/objective/UpperEnvelope", "at", "(I)D"⟩ : MethodName) prog_12_method_4_code 10 (some .double) :: ws) ({ frames := 1, cells := 0, slots := 0, locals := 15 } : Room)) (fun A9 U9 => A9 = #[(.ref a), (.int ix)] ∧ Z.Warmed39 U9.vm ∧ U9.heap = h0) (fun _ _ _ _ _ => True) (fun _ U9 o9 V9 => ∃ v9 L9, o9 = .returned v9 ∧ (Q8_2_1 Z a ix ph pl k1 k2 hp ls P W D h0 n0) v9 V9.heap L9 ∧ FrameEnd U9 o9 V9 L9 ({ frames := 1, cells := 0, slots := 0, locals := 15 } : Room).cells ({ frames := 1, cells := 0, slots := 0, locals := 15 } : Room).slots) := by
  refine met_of (Q := (Q8_2_1 Z a ix ph pl k1 k2 hp ls P W D h0 n0)) pn_8 ?_
  intro p e s m below meth c T0 C X0 e0
  have N0 := Fr.nil n0
  refine Go.cast (ef_8_2_1 m a ix) ?_
  subst hix
  obtain ⟨px, gx, hx⟩ := hP.2 1 (by decide)
  obtain ⟨u0, v0, gu0, gv0, hl0⟩ := hL.2 0 (by decide)
  obtain ⟨u2, v2, gu2, gv2, hl2⟩ := hL.2 2 (by decide)
  refine waloadN C X0 f8_0 rfl rfl ?_
  refine wget C X0 (host := "") (Or.inl (tw_10 hw)) Via.refl e0 Fld_0 f8_1 ?_
  intro T1 X1 e1
  refine wiloadN C X1 f8_4 rfl ?_
  refine wdaload C X1 e1 Arv_3 f8_5 ⟨by decide, by decide⟩ (i := 1) rfl (v := px) gx ?_
  refine wdstoreN C X1 f8_6 #[.val (.ref a), .val (.int (1 : Int32)), .val (.double px), .second, .unset, .unset, .unset, .unset, .unset, .unset] rfl ?_
  refine wdconst0 C X1 f8_7 ?_
  refine wdstore C X1 f8_8 #[.val (.ref a), .val (.int (1 : Int32)), .val (.double px), .second, .val (.double FP.dconst0), .second, .unset, .unset, .unset, .unset] rfl ?_
  refine wiconst C X1 f8_10 (0 : Int32) rfl ?_
  refine wistore C X1 f8_11 #[.val (.ref a), .val (.int (1 : Int32)), .val (.double px), .second, .val (.double FP.dconst0), .second, .val (.int (0 : Int32)), .unset, .unset, .unset] rfl ?_
  refine wiconst C X1 f8_13 (0 : Int32) rfl ?_
  refine wistore C X1 f8_14 #[.val (.ref a), .val (.int (1 : Int32)), .val (.double px), .second, .val (.double FP.dconst0), .second, .val (.int (0 : Int32)), .val (.int (0 : Int32)), .unset, .unset] rfl ?_
  refine waloadN C X1 f8_16 rfl rfl ?_
  refine wget C X1 (host := "") (Or.inl (tw_19 hw)) Via.refl e1 Fld_1 f8_17 ?_
  intro T2 X2 e2
  refine wiconst C X2 f8_20 (1 : Int32) rfl ?_
  refine wisub C X2 f8_21 ?_
  refine own_foldI (z := (1 : Int32)) (by decide) ?_
  refine wistore C X2 f8_22 #[.val (.ref a), .val (.int (1 : Int32)), .val (.double px), .second, .val (.double FP.dconst0), .second, .val (.int (0 : Int32)), .val (.int (0 : Int32)), .val (.int (1 : Int32)), .unset] rfl ?_
  refine wdload C X2 f8_24 rfl ?_
  refine waloadN C X2 f8_26 rfl rfl ?_
  refine wget C X2 (host := "") (Or.inl (tw_12 hw)) Via.refl e2 Fld_2 f8_27 ?_
  intro T3 X3 e3
  refine wiconst C X3 f8_30 (2 : Int32) rfl ?_
  refine wiload C X3 f8_31 rfl ?_
  refine wimul C X3 f8_33 ?_
  refine own_foldI (z := (0 : Int32)) (by decide) ?_
  refine wdaload C X3 e3 Arv_4 f8_34 ⟨by decide, by decide⟩ (i := 0) rfl (v := u0) gu0 ?_
  refine wdloadN C X3 f8_35 rfl ?_
  refine waloadN C X3 f8_36 rfl rfl ?_
  refine wget C X3 (host := "") (Or.inl (tw_12 hw)) Via.refl e3 Fld_2 f8_37 ?_
  intro T4 X4 e4
  refine wiconst C X4 f8_40 (2 : Int32) rfl ?_
  refine wiload C X4 f8_41 rfl ?_
  refine wimul C X4 f8_43 ?_
  refine own_foldI (z := (0 : Int32)) (by decide) ?_
  refine wiconst C X4 f8_44 (1 : Int32) rfl ?_
  refine wiadd C X4 f8_45 ?_
  refine own_foldI (z := (1 : Int32)) (by decide) ?_
  refine wdaload C X4 e4 Arv_4 f8_46 ⟨by decide, by decide⟩ (i := 1) rfl (v := v0) gv0 ?_
  refine wdadd C X4 f8_47 (v := (FP.dadd px v0)) rfl (own_H_nn (own_pd hx hl0)) ?_
  refine wdmul C X4 f8_48 (v := (FP.dmul u0 (FP.dadd px v0))) rfl (own_H_nn (own_lv hx hl0)) ?_
  refine wmaxD C X4 (tw_43 hw) (tw_44 hw) (tw_45 hw) (tw_46 hw) e4 f8_49 (own_H_nn own_H_0) (own_H_nn (own_lv hx hl0)) rfl (W := 0) (Nat.le_of_eq rfl) (by decide) (by decide) (by decide) (by decide) ?_
  intro T5 X5 e5
  refine wdstore C X5 f8_52 #[.val (.ref a), .val (.int (1 : Int32)), .val (.double px), .second, .val (.double (Jvm.Native.java_lang_Math.nans.pick64 true FP.dconst0 (FP.dmul u0 (FP.dadd px v0)))), .second, .val (.int (0 : Int32)), .val (.int (0 : Int32)), .val (.int (1 : Int32)), .unset] rfl ?_
  refine wiload C X5 f8_54 rfl ?_
  refine wiload C X5 f8_56 rfl ?_
  refine wicmp_ne C X5 f8_58 (fun q => absurd q (by decide : ¬ ((0 : Int32) = (1 : Int32)))) ?_
  intro _
  refine wiload C X5 f8_68 rfl ?_
  refine wiload C X5 f8_70 rfl ?_
  refine wiadd C X5 f8_72 ?_
  refine own_foldI (z := (1 : Int32)) (by decide) ?_
  refine wiconst C X5 f8_73 (1 : Int32) rfl ?_
  refine wiushr C X5 f8_74 ?_
  refine own_foldI (z := (0 : Int32)) (by decide) ?_
  refine wistore C X5 f8_75 #[.val (.ref a), .val (.int (1 : Int32)), .val (.double px), .second, .val (.double (Jvm.Native.java_lang_Math.nans.pick64 true FP.dconst0 (FP.dmul u0 (FP.dadd px v0)))), .second, .val (.int (0 : Int32)), .val (.int (0 : Int32)), .val (.int (1 : Int32)), .val (.int (0 : Int32))] rfl ?_
  refine wiloadN C X5 f8_77 rfl ?_
  refine wiload C X5 f8_78 rfl ?_
  refine wicmp_gt C X5 f8_80 ?_ (fun q => absurd (by decide : ((0 : Int32) < (1 : Int32))) q)
  intro _
  refine wiload C X5 f8_96 rfl ?_
  refine wiconst C X5 f8_98 (2 : Int32) rfl ?_
  refine wiload C X5 f8_99 rfl ?_
  refine wiload C X5 f8_101 rfl ?_
  refine wisub C X5 f8_103 ?_
  refine own_foldI (z := (0 : Int32)) (by decide) ?_
  refine wiconst C X5 f8_104 (1 : Int32) rfl ?_
  refine wiadd C X5 f8_105 ?_
  refine own_foldI (z := (1 : Int32)) (by decide) ?_
  refine wimul C X5 f8_106 ?_
  refine own_foldI (z := (2 : Int32)) (by decide) ?_
  refine wiadd C X5 f8_107 ?_
  refine own_foldI (z := (2 : Int32)) (by decide) ?_
  refine wistore C X5 f8_108 #[.val (.ref a), .val (.int (1 : Int32)), .val (.double px), .second, .val (.double (Jvm.Native.java_lang_Math.nans.pick64 true FP.dconst0 (FP.dmul u0 (FP.dadd px v0)))), .second, .val (.int (2 : Int32)), .val (.int (0 : Int32)), .val (.int (1 : Int32)), .val (.int (0 : Int32))] rfl ?_
  refine wiload C X5 f8_110 rfl ?_
  refine wiconst C X5 f8_112 (1 : Int32) rfl ?_
  refine wiadd C X5 f8_113 ?_
  refine own_foldI (z := (1 : Int32)) (by decide) ?_
  refine wistore C X5 f8_114 #[.val (.ref a), .val (.int (1 : Int32)), .val (.double px), .second, .val (.double (Jvm.Native.java_lang_Math.nans.pick64 true FP.dconst0 (FP.dmul u0 (FP.dadd px v0)))), .second, .val (.int (2 : Int32)), .val (.int (1 : Int32)), .val (.int (1 : Int32)), .val (.int (0 : Int32))] rfl ?_
  refine wgoto C X5 f8_116 ?_
  refine wdload C X5 f8_24 rfl ?_
  refine waloadN C X5 f8_26 rfl rfl ?_
  refine wget C X5 (host := "") (Or.inl (tw_12 hw)) Via.refl e5 Fld_2 f8_27 ?_
  intro T6 X6 e6
  refine wiconst C X6 f8_30 (2 : Int32) rfl ?_
  refine wiload C X6 f8_31 rfl ?_
  refine wimul C X6 f8_33 ?_
  refine own_foldI (z := (4 : Int32)) (by decide) ?_
  refine wdaload C X6 e6 Arv_4 f8_34 ⟨by decide, by decide⟩ (i := 4) rfl (v := u2) gu2 ?_
  refine wdloadN C X6 f8_35 rfl ?_
  refine waloadN C X6 f8_36 rfl rfl ?_
  refine wget C X6 (host := "") (Or.inl (tw_12 hw)) Via.refl e6 Fld_2 f8_37 ?_
  intro T7 X7 e7
  refine wiconst C X7 f8_40 (2 : Int32) rfl ?_
  refine wiload C X7 f8_41 rfl ?_
  refine wimul C X7 f8_43 ?_
  refine own_foldI (z := (4 : Int32)) (by decide) ?_
  refine wiconst C X7 f8_44 (1 : Int32) rfl ?_
  refine wiadd C X7 f8_45 ?_
  refine own_foldI (z := (5 : Int32)) (by decide) ?_
  refine wdaload C X7 e7 Arv_4 f8_46 ⟨by decide, by decide⟩ (i := 5) rfl (v := v2) gv2 ?_
  refine wdadd C X7 f8_47 (v := (FP.dadd px v2)) rfl (own_H_nn (own_pd hx hl2)) ?_
  refine wdmul C X7 f8_48 (v := (FP.dmul u2 (FP.dadd px v2))) rfl (own_H_nn (own_lv hx hl2)) ?_
  refine wmaxD C X7 (tw_43 hw) (tw_44 hw) (tw_45 hw) (tw_46 hw) e7 f8_49 (own_H_nn (own_H_max own_H_0 (own_lv hx hl0))) (own_H_nn (own_lv hx hl2)) rfl (W := 0) (Nat.le_of_eq rfl) (by decide) (by decide) (by decide) (by decide) ?_
  intro T8 X8 e8
  refine wdstore C X8 f8_52 #[.val (.ref a), .val (.int (1 : Int32)), .val (.double px), .second, .val (.double (Jvm.Native.java_lang_Math.nans.pick64 true (Jvm.Native.java_lang_Math.nans.pick64 true FP.dconst0 (FP.dmul u0 (FP.dadd px v0))) (FP.dmul u2 (FP.dadd px v2)))), .second, .val (.int (2 : Int32)), .val (.int (1 : Int32)), .val (.int (1 : Int32)), .val (.int (0 : Int32))] rfl ?_
  refine wiload C X8 f8_54 rfl ?_
  refine wiload C X8 f8_56 rfl ?_
  refine wicmp_ne C X8 f8_58 ?_ (fun q => absurd (by decide : ((1 : Int32) = (1 : Int32))) q)
  intro _
  refine wldc2D C X8 (tw_21 hw) f8_61 ?_
  refine wdload C X8 f8_64 rfl ?_
  refine wdmul C X8 f8_66 (v := (FP.dmul (4611686018427387904 : UInt64) (Jvm.Native.java_lang_Math.nans.pick64 true (Jvm.Native.java_lang_Math.nans.pick64 true FP.dconst0 (FP.dmul u0 (FP.dadd px v0))) (FP.dmul u2 (FP.dadd px v2))))) rfl (own_nn (own_H_dbl (own_H_max (own_H_max own_H_0 (own_lv hx hl0)) (own_lv hx hl2)) (by have z0 := own_lvb hx hl0; have z2 := own_lvb hx hl2; omega))) ?_
  refine wdret C X8 f8_67 rfl (by decide) (by decide) ?_
  rw [e8]
  exact ⟨(FP.dmul (4611686018427387904 : UInt64) (Jvm.Native.java_lang_Math.nans.pick64 true (Jvm.Native.java_lang_Math.nans.pick64 true FP.dconst0 (FP.dmul u0 (FP.dadd px v0))) (FP.dmul u2 (FP.dadd px v2)))), rfl, N0, rfl, (by have z0 := own_lvb hx hl0; have z2 := own_lvb hx hl2; simp only [own_pm]; exact own_di (own_H_dbl (own_H_max (own_H_max own_H_0 (own_lv hx hl0)) (own_lv hx hl2)) (by omega)) (by simp; omega))⟩
theorem ef_8_3_0 (m : MethodId) (a : Addr) (ix : Int32) : entryFrame m #[(.ref a), (.int ix)] 10 = mkF m 0 #[.val (.ref a), .val (.int ix), .unset, .unset, .unset, .unset, .unset, .unset, .unset, .unset] [] := by first | (simp [entryFrame, mkF, argsToLocals, Value.category]; done) | rfl
def Q8_3_0 (Z : State) (a : Addr) (ix : Int32) (ph : Addr) (pl : Addr) (k1 : ClassId) (k2 : ClassId) (hp : List Value) (ls : List Value) (P : Nat → Int) (W : Nat → Int) (D : Nat → Int) (h0 : Heap) (n0 : Nat) (v9 : Option Value) (h9 : Heap) (L9 : List Loc) : Prop := ∃ (rv : UInt64), v9 = some (.double rv) ∧ Fr n0 L9 ∧ h9 = h0 ∧ (FP.Core.DInt (own_pm 3 0 0 (3 - 1) W D (P 0) 0) rv)
set_option maxRecDepth 65536 in
set_option maxHeartbeats 40000000 in
theorem rm8_3_0 (l : Launch) (Z : State) (a0 : Array Value) (hw : ∀ d ∈ tables_1, d.before a0 Z = true) (ws : List Jvm.Cond) (a : Addr) (ix : Int32) (ph : Addr) (pl : Addr) (k1 : ClassId) (k2 : ClassId) (hp : List Value) (ls : List Value) (P : Nat → Int) (W : Nat → Int) (D : Nat → Int) (h0 : Heap) (n0 : Nat) (Z0 : n0 ≤ h0.size) (Fld_0 : Fld Z h0 a "com/example/arbor_center/arborcenter/objective/UpperEnvelope" "halfPoints" "[D" (.ref ph)) (Fld_1 : Fld Z h0 a "com/example/arbor_center/arborcenter/objective/UpperEnvelope" "count" "I" (.int (3 : Int32))) (Fld_2 : Fld Z h0 a "com/example/arbor_center/arborcenter/objective/UpperEnvelope" "lines" "[D" (.ref pl)) (Arv_3 : Arv Z h0 ph k1 .double (4 : Int32) hp (.double (0 : UInt64))) (Arv_4 : Arv Z h0 pl k2 .double (14 : Int32) ls (.double (0 : UInt64))) (hix : (ix = (0 : Int32))) (hL : (own_Ls ls W D)) (hP : (own_Ps hp P 3)) :
    MetFree l (⟨"com/example/arbor_center/arborcenter/objective/UpperEnvelope", "at", "(I)D"⟩ : MethodName) (head1 (Jvm.Cond.code (⟨"com/example/arbor_center/arborcenter/objective/UpperEnvelope", "at", "(I)D"⟩ : MethodName) prog_12_method_4_code 10 (some .double) :: ws) ({ frames := 1, cells := 0, slots := 0, locals := 15 } : Room)) (fun A9 U9 => A9 = #[(.ref a), (.int ix)] ∧ Z.Warmed39 U9.vm ∧ U9.heap = h0) (fun _ _ _ _ _ => True) (fun _ U9 o9 V9 => ∃ v9 L9, o9 = .returned v9 ∧ (Q8_3_0 Z a ix ph pl k1 k2 hp ls P W D h0 n0) v9 V9.heap L9 ∧ FrameEnd U9 o9 V9 L9 ({ frames := 1, cells := 0, slots := 0, locals := 15 } : Room).cells ({ frames := 1, cells := 0, slots := 0, locals := 15 } : Room).slots) := by
  refine met_of (Q := (Q8_3_0 Z a ix ph pl k1 k2 hp ls P W D h0 n0)) pn_8 ?_
  intro p e s m below meth c T0 C X0 e0
  have N0 := Fr.nil n0
  refine Go.cast (ef_8_3_0 m a ix) ?_
  subst hix
  obtain ⟨px, gx, hx⟩ := hP.2 0 (by decide)
  obtain ⟨u0, v0, gu0, gv0, hl0⟩ := hL.2 0 (by decide)
  obtain ⟨u1, v1, gu1, gv1, hl1⟩ := hL.2 1 (by decide)
  obtain ⟨u2, v2, gu2, gv2, hl2⟩ := hL.2 2 (by decide)
  refine waloadN C X0 f8_0 rfl rfl ?_
  refine wget C X0 (host := "") (Or.inl (tw_10 hw)) Via.refl e0 Fld_0 f8_1 ?_
  intro T1 X1 e1
  refine wiloadN C X1 f8_4 rfl ?_
  refine wdaload C X1 e1 Arv_3 f8_5 ⟨by decide, by decide⟩ (i := 0) rfl (v := px) gx ?_
  refine wdstoreN C X1 f8_6 #[.val (.ref a), .val (.int (0 : Int32)), .val (.double px), .second, .unset, .unset, .unset, .unset, .unset, .unset] rfl ?_
  refine wdconst0 C X1 f8_7 ?_
  refine wdstore C X1 f8_8 #[.val (.ref a), .val (.int (0 : Int32)), .val (.double px), .second, .val (.double FP.dconst0), .second, .unset, .unset, .unset, .unset] rfl ?_
  refine wiconst C X1 f8_10 (0 : Int32) rfl ?_
  refine wistore C X1 f8_11 #[.val (.ref a), .val (.int (0 : Int32)), .val (.double px), .second, .val (.double FP.dconst0), .second, .val (.int (0 : Int32)), .unset, .unset, .unset] rfl ?_
  refine wiconst C X1 f8_13 (0 : Int32) rfl ?_
  refine wistore C X1 f8_14 #[.val (.ref a), .val (.int (0 : Int32)), .val (.double px), .second, .val (.double FP.dconst0), .second, .val (.int (0 : Int32)), .val (.int (0 : Int32)), .unset, .unset] rfl ?_
  refine waloadN C X1 f8_16 rfl rfl ?_
  refine wget C X1 (host := "") (Or.inl (tw_19 hw)) Via.refl e1 Fld_1 f8_17 ?_
  intro T2 X2 e2
  refine wiconst C X2 f8_20 (1 : Int32) rfl ?_
  refine wisub C X2 f8_21 ?_
  refine own_foldI (z := (2 : Int32)) (by decide) ?_
  refine wistore C X2 f8_22 #[.val (.ref a), .val (.int (0 : Int32)), .val (.double px), .second, .val (.double FP.dconst0), .second, .val (.int (0 : Int32)), .val (.int (0 : Int32)), .val (.int (2 : Int32)), .unset] rfl ?_
  refine wdload C X2 f8_24 rfl ?_
  refine waloadN C X2 f8_26 rfl rfl ?_
  refine wget C X2 (host := "") (Or.inl (tw_12 hw)) Via.refl e2 Fld_2 f8_27 ?_
  intro T3 X3 e3
  refine wiconst C X3 f8_30 (2 : Int32) rfl ?_
  refine wiload C X3 f8_31 rfl ?_
  refine wimul C X3 f8_33 ?_
  refine own_foldI (z := (0 : Int32)) (by decide) ?_
  refine wdaload C X3 e3 Arv_4 f8_34 ⟨by decide, by decide⟩ (i := 0) rfl (v := u0) gu0 ?_
  refine wdloadN C X3 f8_35 rfl ?_
  refine waloadN C X3 f8_36 rfl rfl ?_
  refine wget C X3 (host := "") (Or.inl (tw_12 hw)) Via.refl e3 Fld_2 f8_37 ?_
  intro T4 X4 e4
  refine wiconst C X4 f8_40 (2 : Int32) rfl ?_
  refine wiload C X4 f8_41 rfl ?_
  refine wimul C X4 f8_43 ?_
  refine own_foldI (z := (0 : Int32)) (by decide) ?_
  refine wiconst C X4 f8_44 (1 : Int32) rfl ?_
  refine wiadd C X4 f8_45 ?_
  refine own_foldI (z := (1 : Int32)) (by decide) ?_
  refine wdaload C X4 e4 Arv_4 f8_46 ⟨by decide, by decide⟩ (i := 1) rfl (v := v0) gv0 ?_
  refine wdadd C X4 f8_47 (v := (FP.dadd px v0)) rfl (own_H_nn (own_pd hx hl0)) ?_
  refine wdmul C X4 f8_48 (v := (FP.dmul u0 (FP.dadd px v0))) rfl (own_H_nn (own_lv hx hl0)) ?_
  refine wmaxD C X4 (tw_43 hw) (tw_44 hw) (tw_45 hw) (tw_46 hw) e4 f8_49 (own_H_nn own_H_0) (own_H_nn (own_lv hx hl0)) rfl (W := 0) (Nat.le_of_eq rfl) (by decide) (by decide) (by decide) (by decide) ?_
  intro T5 X5 e5
  refine wdstore C X5 f8_52 #[.val (.ref a), .val (.int (0 : Int32)), .val (.double px), .second, .val (.double (Jvm.Native.java_lang_Math.nans.pick64 true FP.dconst0 (FP.dmul u0 (FP.dadd px v0)))), .second, .val (.int (0 : Int32)), .val (.int (0 : Int32)), .val (.int (2 : Int32)), .unset] rfl ?_
  refine wiload C X5 f8_54 rfl ?_
  refine wiload C X5 f8_56 rfl ?_
  refine wicmp_ne C X5 f8_58 (fun q => absurd q (by decide : ¬ ((0 : Int32) = (2 : Int32)))) ?_
  intro _
  refine wiload C X5 f8_68 rfl ?_
  refine wiload C X5 f8_70 rfl ?_
  refine wiadd C X5 f8_72 ?_
  refine own_foldI (z := (2 : Int32)) (by decide) ?_
  refine wiconst C X5 f8_73 (1 : Int32) rfl ?_
  refine wiushr C X5 f8_74 ?_
  refine own_foldI (z := (1 : Int32)) (by decide) ?_
  refine wistore C X5 f8_75 #[.val (.ref a), .val (.int (0 : Int32)), .val (.double px), .second, .val (.double (Jvm.Native.java_lang_Math.nans.pick64 true FP.dconst0 (FP.dmul u0 (FP.dadd px v0)))), .second, .val (.int (0 : Int32)), .val (.int (0 : Int32)), .val (.int (2 : Int32)), .val (.int (1 : Int32))] rfl ?_
  refine wiloadN C X5 f8_77 rfl ?_
  refine wiload C X5 f8_78 rfl ?_
  refine wicmp_gt C X5 f8_80 (fun q => absurd q (by decide : ¬ ((1 : Int32) < (0 : Int32)))) ?_
  intro _
  refine wiload C X5 f8_83 rfl ?_
  refine wiconst C X5 f8_85 (1 : Int32) rfl ?_
  refine wiadd C X5 f8_86 ?_
  refine own_foldI (z := (1 : Int32)) (by decide) ?_
  refine wistore C X5 f8_87 #[.val (.ref a), .val (.int (0 : Int32)), .val (.double px), .second, .val (.double (Jvm.Native.java_lang_Math.nans.pick64 true FP.dconst0 (FP.dmul u0 (FP.dadd px v0)))), .second, .val (.int (1 : Int32)), .val (.int (0 : Int32)), .val (.int (2 : Int32)), .val (.int (1 : Int32))] rfl ?_
  refine wiload C X5 f8_89 rfl ?_
  refine wistore C X5 f8_91 #[.val (.ref a), .val (.int (0 : Int32)), .val (.double px), .second, .val (.double (Jvm.Native.java_lang_Math.nans.pick64 true FP.dconst0 (FP.dmul u0 (FP.dadd px v0)))), .second, .val (.int (1 : Int32)), .val (.int (0 : Int32)), .val (.int (1 : Int32)), .val (.int (1 : Int32))] rfl ?_
  refine wgoto C X5 f8_93 ?_
  refine wgoto C X5 f8_116 ?_
  refine wdload C X5 f8_24 rfl ?_
  refine waloadN C X5 f8_26 rfl rfl ?_
  refine wget C X5 (host := "") (Or.inl (tw_12 hw)) Via.refl e5 Fld_2 f8_27 ?_
  intro T6 X6 e6
  refine wiconst C X6 f8_30 (2 : Int32) rfl ?_
  refine wiload C X6 f8_31 rfl ?_
  refine wimul C X6 f8_33 ?_
  refine own_foldI (z := (2 : Int32)) (by decide) ?_
  refine wdaload C X6 e6 Arv_4 f8_34 ⟨by decide, by decide⟩ (i := 2) rfl (v := u1) gu1 ?_
  refine wdloadN C X6 f8_35 rfl ?_
  refine waloadN C X6 f8_36 rfl rfl ?_
  refine wget C X6 (host := "") (Or.inl (tw_12 hw)) Via.refl e6 Fld_2 f8_37 ?_
  intro T7 X7 e7
  refine wiconst C X7 f8_40 (2 : Int32) rfl ?_
  refine wiload C X7 f8_41 rfl ?_
  refine wimul C X7 f8_43 ?_
  refine own_foldI (z := (2 : Int32)) (by decide) ?_
  refine wiconst C X7 f8_44 (1 : Int32) rfl ?_
  refine wiadd C X7 f8_45 ?_
  refine own_foldI (z := (3 : Int32)) (by decide) ?_
  refine wdaload C X7 e7 Arv_4 f8_46 ⟨by decide, by decide⟩ (i := 3) rfl (v := v1) gv1 ?_
  refine wdadd C X7 f8_47 (v := (FP.dadd px v1)) rfl (own_H_nn (own_pd hx hl1)) ?_
  refine wdmul C X7 f8_48 (v := (FP.dmul u1 (FP.dadd px v1))) rfl (own_H_nn (own_lv hx hl1)) ?_
  refine wmaxD C X7 (tw_43 hw) (tw_44 hw) (tw_45 hw) (tw_46 hw) e7 f8_49 (own_H_nn (own_H_max own_H_0 (own_lv hx hl0))) (own_H_nn (own_lv hx hl1)) rfl (W := 0) (Nat.le_of_eq rfl) (by decide) (by decide) (by decide) (by decide) ?_
  intro T8 X8 e8
  refine wdstore C X8 f8_52 #[.val (.ref a), .val (.int (0 : Int32)), .val (.double px), .second, .val (.double (Jvm.Native.java_lang_Math.nans.pick64 true (Jvm.Native.java_lang_Math.nans.pick64 true FP.dconst0 (FP.dmul u0 (FP.dadd px v0))) (FP.dmul u1 (FP.dadd px v1)))), .second, .val (.int (1 : Int32)), .val (.int (0 : Int32)), .val (.int (1 : Int32)), .val (.int (1 : Int32))] rfl ?_
  refine wiload C X8 f8_54 rfl ?_
  refine wiload C X8 f8_56 rfl ?_
  refine wicmp_ne C X8 f8_58 (fun q => absurd q (by decide : ¬ ((0 : Int32) = (1 : Int32)))) ?_
  intro _
  refine wiload C X8 f8_68 rfl ?_
  refine wiload C X8 f8_70 rfl ?_
  refine wiadd C X8 f8_72 ?_
  refine own_foldI (z := (1 : Int32)) (by decide) ?_
  refine wiconst C X8 f8_73 (1 : Int32) rfl ?_
  refine wiushr C X8 f8_74 ?_
  refine own_foldI (z := (0 : Int32)) (by decide) ?_
  refine wistore C X8 f8_75 #[.val (.ref a), .val (.int (0 : Int32)), .val (.double px), .second, .val (.double (Jvm.Native.java_lang_Math.nans.pick64 true (Jvm.Native.java_lang_Math.nans.pick64 true FP.dconst0 (FP.dmul u0 (FP.dadd px v0))) (FP.dmul u1 (FP.dadd px v1)))), .second, .val (.int (1 : Int32)), .val (.int (0 : Int32)), .val (.int (1 : Int32)), .val (.int (0 : Int32))] rfl ?_
  refine wiloadN C X8 f8_77 rfl ?_
  refine wiload C X8 f8_78 rfl ?_
  refine wicmp_gt C X8 f8_80 (fun q => absurd q (by decide : ¬ ((0 : Int32) < (0 : Int32)))) ?_
  intro _
  refine wiload C X8 f8_83 rfl ?_
  refine wiconst C X8 f8_85 (1 : Int32) rfl ?_
  refine wiadd C X8 f8_86 ?_
  refine own_foldI (z := (2 : Int32)) (by decide) ?_
  refine wistore C X8 f8_87 #[.val (.ref a), .val (.int (0 : Int32)), .val (.double px), .second, .val (.double (Jvm.Native.java_lang_Math.nans.pick64 true (Jvm.Native.java_lang_Math.nans.pick64 true FP.dconst0 (FP.dmul u0 (FP.dadd px v0))) (FP.dmul u1 (FP.dadd px v1)))), .second, .val (.int (2 : Int32)), .val (.int (0 : Int32)), .val (.int (1 : Int32)), .val (.int (0 : Int32))] rfl ?_
  refine wiload C X8 f8_89 rfl ?_
  refine wistore C X8 f8_91 #[.val (.ref a), .val (.int (0 : Int32)), .val (.double px), .second, .val (.double (Jvm.Native.java_lang_Math.nans.pick64 true (Jvm.Native.java_lang_Math.nans.pick64 true FP.dconst0 (FP.dmul u0 (FP.dadd px v0))) (FP.dmul u1 (FP.dadd px v1)))), .second, .val (.int (2 : Int32)), .val (.int (0 : Int32)), .val (.int (0 : Int32)), .val (.int (0 : Int32))] rfl ?_
  refine wgoto C X8 f8_93 ?_
  refine wgoto C X8 f8_116 ?_
  refine wdload C X8 f8_24 rfl ?_
  refine waloadN C X8 f8_26 rfl rfl ?_
  refine wget C X8 (host := "") (Or.inl (tw_12 hw)) Via.refl e8 Fld_2 f8_27 ?_
  intro T9 X9 e9
  refine wiconst C X9 f8_30 (2 : Int32) rfl ?_
  refine wiload C X9 f8_31 rfl ?_
  refine wimul C X9 f8_33 ?_
  refine own_foldI (z := (4 : Int32)) (by decide) ?_
  refine wdaload C X9 e9 Arv_4 f8_34 ⟨by decide, by decide⟩ (i := 4) rfl (v := u2) gu2 ?_
  refine wdloadN C X9 f8_35 rfl ?_
  refine waloadN C X9 f8_36 rfl rfl ?_
  refine wget C X9 (host := "") (Or.inl (tw_12 hw)) Via.refl e9 Fld_2 f8_37 ?_
  intro T10 X10 e10
  refine wiconst C X10 f8_40 (2 : Int32) rfl ?_
  refine wiload C X10 f8_41 rfl ?_
  refine wimul C X10 f8_43 ?_
  refine own_foldI (z := (4 : Int32)) (by decide) ?_
  refine wiconst C X10 f8_44 (1 : Int32) rfl ?_
  refine wiadd C X10 f8_45 ?_
  refine own_foldI (z := (5 : Int32)) (by decide) ?_
  refine wdaload C X10 e10 Arv_4 f8_46 ⟨by decide, by decide⟩ (i := 5) rfl (v := v2) gv2 ?_
  refine wdadd C X10 f8_47 (v := (FP.dadd px v2)) rfl (own_H_nn (own_pd hx hl2)) ?_
  refine wdmul C X10 f8_48 (v := (FP.dmul u2 (FP.dadd px v2))) rfl (own_H_nn (own_lv hx hl2)) ?_
  refine wmaxD C X10 (tw_43 hw) (tw_44 hw) (tw_45 hw) (tw_46 hw) e10 f8_49 (own_H_nn (own_H_max (own_H_max own_H_0 (own_lv hx hl0)) (own_lv hx hl1))) (own_H_nn (own_lv hx hl2)) rfl (W := 0) (Nat.le_of_eq rfl) (by decide) (by decide) (by decide) (by decide) ?_
  intro T11 X11 e11
  refine wdstore C X11 f8_52 #[.val (.ref a), .val (.int (0 : Int32)), .val (.double px), .second, .val (.double (Jvm.Native.java_lang_Math.nans.pick64 true (Jvm.Native.java_lang_Math.nans.pick64 true (Jvm.Native.java_lang_Math.nans.pick64 true FP.dconst0 (FP.dmul u0 (FP.dadd px v0))) (FP.dmul u1 (FP.dadd px v1))) (FP.dmul u2 (FP.dadd px v2)))), .second, .val (.int (2 : Int32)), .val (.int (0 : Int32)), .val (.int (0 : Int32)), .val (.int (0 : Int32))] rfl ?_
  refine wiload C X11 f8_54 rfl ?_
  refine wiload C X11 f8_56 rfl ?_
  refine wicmp_ne C X11 f8_58 ?_ (fun q => absurd (by decide : ((0 : Int32) = (0 : Int32))) q)
  intro _
  refine wldc2D C X11 (tw_21 hw) f8_61 ?_
  refine wdload C X11 f8_64 rfl ?_
  refine wdmul C X11 f8_66 (v := (FP.dmul (4611686018427387904 : UInt64) (Jvm.Native.java_lang_Math.nans.pick64 true (Jvm.Native.java_lang_Math.nans.pick64 true (Jvm.Native.java_lang_Math.nans.pick64 true FP.dconst0 (FP.dmul u0 (FP.dadd px v0))) (FP.dmul u1 (FP.dadd px v1))) (FP.dmul u2 (FP.dadd px v2))))) rfl (own_nn (own_H_dbl (own_H_max (own_H_max (own_H_max own_H_0 (own_lv hx hl0)) (own_lv hx hl1)) (own_lv hx hl2)) (by have z0 := own_lvb hx hl0; have z1 := own_lvb hx hl1; have z2 := own_lvb hx hl2; omega))) ?_
  refine wdret C X11 f8_67 rfl (by decide) (by decide) ?_
  rw [e11]
  exact ⟨(FP.dmul (4611686018427387904 : UInt64) (Jvm.Native.java_lang_Math.nans.pick64 true (Jvm.Native.java_lang_Math.nans.pick64 true (Jvm.Native.java_lang_Math.nans.pick64 true FP.dconst0 (FP.dmul u0 (FP.dadd px v0))) (FP.dmul u1 (FP.dadd px v1))) (FP.dmul u2 (FP.dadd px v2)))), rfl, N0, rfl, (by have z0 := own_lvb hx hl0; have z1 := own_lvb hx hl1; have z2 := own_lvb hx hl2; simp only [own_pm]; exact own_di (own_H_dbl (own_H_max (own_H_max (own_H_max own_H_0 (own_lv hx hl0)) (own_lv hx hl1)) (own_lv hx hl2)) (by omega)) (by simp; omega))⟩
theorem ef_8_3_1 (m : MethodId) (a : Addr) (ix : Int32) : entryFrame m #[(.ref a), (.int ix)] 10 = mkF m 0 #[.val (.ref a), .val (.int ix), .unset, .unset, .unset, .unset, .unset, .unset, .unset, .unset] [] := by first | (simp [entryFrame, mkF, argsToLocals, Value.category]; done) | rfl
def Q8_3_1 (Z : State) (a : Addr) (ix : Int32) (ph : Addr) (pl : Addr) (k1 : ClassId) (k2 : ClassId) (hp : List Value) (ls : List Value) (P : Nat → Int) (W : Nat → Int) (D : Nat → Int) (h0 : Heap) (n0 : Nat) (v9 : Option Value) (h9 : Heap) (L9 : List Loc) : Prop := ∃ (rv : UInt64), v9 = some (.double rv) ∧ Fr n0 L9 ∧ h9 = h0 ∧ (FP.Core.DInt (own_pm 3 0 0 (3 - 1) W D (P 1) 1) rv)
set_option maxRecDepth 65536 in
set_option maxHeartbeats 40000000 in
theorem rm8_3_1 (l : Launch) (Z : State) (a0 : Array Value) (hw : ∀ d ∈ tables_1, d.before a0 Z = true) (ws : List Jvm.Cond) (a : Addr) (ix : Int32) (ph : Addr) (pl : Addr) (k1 : ClassId) (k2 : ClassId) (hp : List Value) (ls : List Value) (P : Nat → Int) (W : Nat → Int) (D : Nat → Int) (h0 : Heap) (n0 : Nat) (Z0 : n0 ≤ h0.size) (Fld_0 : Fld Z h0 a "com/example/arbor_center/arborcenter/objective/UpperEnvelope" "halfPoints" "[D" (.ref ph)) (Fld_1 : Fld Z h0 a "com/example/arbor_center/arborcenter/objective/UpperEnvelope" "count" "I" (.int (3 : Int32))) (Fld_2 : Fld Z h0 a "com/example/arbor_center/arborcenter/objective/UpperEnvelope" "lines" "[D" (.ref pl)) (Arv_3 : Arv Z h0 ph k1 .double (4 : Int32) hp (.double (0 : UInt64))) (Arv_4 : Arv Z h0 pl k2 .double (14 : Int32) ls (.double (0 : UInt64))) (hix : (ix = (1 : Int32))) (hL : (own_Ls ls W D)) (hP : (own_Ps hp P 3)) :
    MetFree l (⟨"com/example/arbor_center/arborcenter/objective/UpperEnvelope", "at", "(I)D"⟩ : MethodName) (head1 (Jvm.Cond.code (⟨"com/example/arbor_center/arborcenter/objective/UpperEnvelope", "at", "(I)D"⟩ : MethodName) prog_12_method_4_code 10 (some .double) :: ws) ({ frames := 1, cells := 0, slots := 0, locals := 15 } : Room)) (fun A9 U9 => A9 = #[(.ref a), (.int ix)] ∧ Z.Warmed39 U9.vm ∧ U9.heap = h0) (fun _ _ _ _ _ => True) (fun _ U9 o9 V9 => ∃ v9 L9, o9 = .returned v9 ∧ (Q8_3_1 Z a ix ph pl k1 k2 hp ls P W D h0 n0) v9 V9.heap L9 ∧ FrameEnd U9 o9 V9 L9 ({ frames := 1, cells := 0, slots := 0, locals := 15 } : Room).cells ({ frames := 1, cells := 0, slots := 0, locals := 15 } : Room).slots) := by
  refine met_of (Q := (Q8_3_1 Z a ix ph pl k1 k2 hp ls P W D h0 n0)) pn_8 ?_
  intro p e s m below meth c T0 C X0 e0
  have N0 := Fr.nil n0
  refine Go.cast (ef_8_3_1 m a ix) ?_
  subst hix
  obtain ⟨px, gx, hx⟩ := hP.2 1 (by decide)
  obtain ⟨u0, v0, gu0, gv0, hl0⟩ := hL.2 0 (by decide)
  obtain ⟨u1, v1, gu1, gv1, hl1⟩ := hL.2 1 (by decide)
  obtain ⟨u3, v3, gu3, gv3, hl3⟩ := hL.2 3 (by decide)
  refine waloadN C X0 f8_0 rfl rfl ?_
  refine wget C X0 (host := "") (Or.inl (tw_10 hw)) Via.refl e0 Fld_0 f8_1 ?_
  intro T1 X1 e1
  refine wiloadN C X1 f8_4 rfl ?_
  refine wdaload C X1 e1 Arv_3 f8_5 ⟨by decide, by decide⟩ (i := 1) rfl (v := px) gx ?_
  refine wdstoreN C X1 f8_6 #[.val (.ref a), .val (.int (1 : Int32)), .val (.double px), .second, .unset, .unset, .unset, .unset, .unset, .unset] rfl ?_
  refine wdconst0 C X1 f8_7 ?_
  refine wdstore C X1 f8_8 #[.val (.ref a), .val (.int (1 : Int32)), .val (.double px), .second, .val (.double FP.dconst0), .second, .unset, .unset, .unset, .unset] rfl ?_
  refine wiconst C X1 f8_10 (0 : Int32) rfl ?_
  refine wistore C X1 f8_11 #[.val (.ref a), .val (.int (1 : Int32)), .val (.double px), .second, .val (.double FP.dconst0), .second, .val (.int (0 : Int32)), .unset, .unset, .unset] rfl ?_
  refine wiconst C X1 f8_13 (0 : Int32) rfl ?_
  refine wistore C X1 f8_14 #[.val (.ref a), .val (.int (1 : Int32)), .val (.double px), .second, .val (.double FP.dconst0), .second, .val (.int (0 : Int32)), .val (.int (0 : Int32)), .unset, .unset] rfl ?_
  refine waloadN C X1 f8_16 rfl rfl ?_
  refine wget C X1 (host := "") (Or.inl (tw_19 hw)) Via.refl e1 Fld_1 f8_17 ?_
  intro T2 X2 e2
  refine wiconst C X2 f8_20 (1 : Int32) rfl ?_
  refine wisub C X2 f8_21 ?_
  refine own_foldI (z := (2 : Int32)) (by decide) ?_
  refine wistore C X2 f8_22 #[.val (.ref a), .val (.int (1 : Int32)), .val (.double px), .second, .val (.double FP.dconst0), .second, .val (.int (0 : Int32)), .val (.int (0 : Int32)), .val (.int (2 : Int32)), .unset] rfl ?_
  refine wdload C X2 f8_24 rfl ?_
  refine waloadN C X2 f8_26 rfl rfl ?_
  refine wget C X2 (host := "") (Or.inl (tw_12 hw)) Via.refl e2 Fld_2 f8_27 ?_
  intro T3 X3 e3
  refine wiconst C X3 f8_30 (2 : Int32) rfl ?_
  refine wiload C X3 f8_31 rfl ?_
  refine wimul C X3 f8_33 ?_
  refine own_foldI (z := (0 : Int32)) (by decide) ?_
  refine wdaload C X3 e3 Arv_4 f8_34 ⟨by decide, by decide⟩ (i := 0) rfl (v := u0) gu0 ?_
  refine wdloadN C X3 f8_35 rfl ?_
  refine waloadN C X3 f8_36 rfl rfl ?_
  refine wget C X3 (host := "") (Or.inl (tw_12 hw)) Via.refl e3 Fld_2 f8_37 ?_
  intro T4 X4 e4
  refine wiconst C X4 f8_40 (2 : Int32) rfl ?_
  refine wiload C X4 f8_41 rfl ?_
  refine wimul C X4 f8_43 ?_
  refine own_foldI (z := (0 : Int32)) (by decide) ?_
  refine wiconst C X4 f8_44 (1 : Int32) rfl ?_
  refine wiadd C X4 f8_45 ?_
  refine own_foldI (z := (1 : Int32)) (by decide) ?_
  refine wdaload C X4 e4 Arv_4 f8_46 ⟨by decide, by decide⟩ (i := 1) rfl (v := v0) gv0 ?_
  refine wdadd C X4 f8_47 (v := (FP.dadd px v0)) rfl (own_H_nn (own_pd hx hl0)) ?_
  refine wdmul C X4 f8_48 (v := (FP.dmul u0 (FP.dadd px v0))) rfl (own_H_nn (own_lv hx hl0)) ?_
  refine wmaxD C X4 (tw_43 hw) (tw_44 hw) (tw_45 hw) (tw_46 hw) e4 f8_49 (own_H_nn own_H_0) (own_H_nn (own_lv hx hl0)) rfl (W := 0) (Nat.le_of_eq rfl) (by decide) (by decide) (by decide) (by decide) ?_
  intro T5 X5 e5
  refine wdstore C X5 f8_52 #[.val (.ref a), .val (.int (1 : Int32)), .val (.double px), .second, .val (.double (Jvm.Native.java_lang_Math.nans.pick64 true FP.dconst0 (FP.dmul u0 (FP.dadd px v0)))), .second, .val (.int (0 : Int32)), .val (.int (0 : Int32)), .val (.int (2 : Int32)), .unset] rfl ?_
  refine wiload C X5 f8_54 rfl ?_
  refine wiload C X5 f8_56 rfl ?_
  refine wicmp_ne C X5 f8_58 (fun q => absurd q (by decide : ¬ ((0 : Int32) = (2 : Int32)))) ?_
  intro _
  refine wiload C X5 f8_68 rfl ?_
  refine wiload C X5 f8_70 rfl ?_
  refine wiadd C X5 f8_72 ?_
  refine own_foldI (z := (2 : Int32)) (by decide) ?_
  refine wiconst C X5 f8_73 (1 : Int32) rfl ?_
  refine wiushr C X5 f8_74 ?_
  refine own_foldI (z := (1 : Int32)) (by decide) ?_
  refine wistore C X5 f8_75 #[.val (.ref a), .val (.int (1 : Int32)), .val (.double px), .second, .val (.double (Jvm.Native.java_lang_Math.nans.pick64 true FP.dconst0 (FP.dmul u0 (FP.dadd px v0)))), .second, .val (.int (0 : Int32)), .val (.int (0 : Int32)), .val (.int (2 : Int32)), .val (.int (1 : Int32))] rfl ?_
  refine wiloadN C X5 f8_77 rfl ?_
  refine wiload C X5 f8_78 rfl ?_
  refine wicmp_gt C X5 f8_80 (fun q => absurd q (by decide : ¬ ((1 : Int32) < (1 : Int32)))) ?_
  intro _
  refine wiload C X5 f8_83 rfl ?_
  refine wiconst C X5 f8_85 (1 : Int32) rfl ?_
  refine wiadd C X5 f8_86 ?_
  refine own_foldI (z := (1 : Int32)) (by decide) ?_
  refine wistore C X5 f8_87 #[.val (.ref a), .val (.int (1 : Int32)), .val (.double px), .second, .val (.double (Jvm.Native.java_lang_Math.nans.pick64 true FP.dconst0 (FP.dmul u0 (FP.dadd px v0)))), .second, .val (.int (1 : Int32)), .val (.int (0 : Int32)), .val (.int (2 : Int32)), .val (.int (1 : Int32))] rfl ?_
  refine wiload C X5 f8_89 rfl ?_
  refine wistore C X5 f8_91 #[.val (.ref a), .val (.int (1 : Int32)), .val (.double px), .second, .val (.double (Jvm.Native.java_lang_Math.nans.pick64 true FP.dconst0 (FP.dmul u0 (FP.dadd px v0)))), .second, .val (.int (1 : Int32)), .val (.int (0 : Int32)), .val (.int (1 : Int32)), .val (.int (1 : Int32))] rfl ?_
  refine wgoto C X5 f8_93 ?_
  refine wgoto C X5 f8_116 ?_
  refine wdload C X5 f8_24 rfl ?_
  refine waloadN C X5 f8_26 rfl rfl ?_
  refine wget C X5 (host := "") (Or.inl (tw_12 hw)) Via.refl e5 Fld_2 f8_27 ?_
  intro T6 X6 e6
  refine wiconst C X6 f8_30 (2 : Int32) rfl ?_
  refine wiload C X6 f8_31 rfl ?_
  refine wimul C X6 f8_33 ?_
  refine own_foldI (z := (2 : Int32)) (by decide) ?_
  refine wdaload C X6 e6 Arv_4 f8_34 ⟨by decide, by decide⟩ (i := 2) rfl (v := u1) gu1 ?_
  refine wdloadN C X6 f8_35 rfl ?_
  refine waloadN C X6 f8_36 rfl rfl ?_
  refine wget C X6 (host := "") (Or.inl (tw_12 hw)) Via.refl e6 Fld_2 f8_37 ?_
  intro T7 X7 e7
  refine wiconst C X7 f8_40 (2 : Int32) rfl ?_
  refine wiload C X7 f8_41 rfl ?_
  refine wimul C X7 f8_43 ?_
  refine own_foldI (z := (2 : Int32)) (by decide) ?_
  refine wiconst C X7 f8_44 (1 : Int32) rfl ?_
  refine wiadd C X7 f8_45 ?_
  refine own_foldI (z := (3 : Int32)) (by decide) ?_
  refine wdaload C X7 e7 Arv_4 f8_46 ⟨by decide, by decide⟩ (i := 3) rfl (v := v1) gv1 ?_
  refine wdadd C X7 f8_47 (v := (FP.dadd px v1)) rfl (own_H_nn (own_pd hx hl1)) ?_
  refine wdmul C X7 f8_48 (v := (FP.dmul u1 (FP.dadd px v1))) rfl (own_H_nn (own_lv hx hl1)) ?_
  refine wmaxD C X7 (tw_43 hw) (tw_44 hw) (tw_45 hw) (tw_46 hw) e7 f8_49 (own_H_nn (own_H_max own_H_0 (own_lv hx hl0))) (own_H_nn (own_lv hx hl1)) rfl (W := 0) (Nat.le_of_eq rfl) (by decide) (by decide) (by decide) (by decide) ?_
  intro T8 X8 e8
  refine wdstore C X8 f8_52 #[.val (.ref a), .val (.int (1 : Int32)), .val (.double px), .second, .val (.double (Jvm.Native.java_lang_Math.nans.pick64 true (Jvm.Native.java_lang_Math.nans.pick64 true FP.dconst0 (FP.dmul u0 (FP.dadd px v0))) (FP.dmul u1 (FP.dadd px v1)))), .second, .val (.int (1 : Int32)), .val (.int (0 : Int32)), .val (.int (1 : Int32)), .val (.int (1 : Int32))] rfl ?_
  refine wiload C X8 f8_54 rfl ?_
  refine wiload C X8 f8_56 rfl ?_
  refine wicmp_ne C X8 f8_58 (fun q => absurd q (by decide : ¬ ((0 : Int32) = (1 : Int32)))) ?_
  intro _
  refine wiload C X8 f8_68 rfl ?_
  refine wiload C X8 f8_70 rfl ?_
  refine wiadd C X8 f8_72 ?_
  refine own_foldI (z := (1 : Int32)) (by decide) ?_
  refine wiconst C X8 f8_73 (1 : Int32) rfl ?_
  refine wiushr C X8 f8_74 ?_
  refine own_foldI (z := (0 : Int32)) (by decide) ?_
  refine wistore C X8 f8_75 #[.val (.ref a), .val (.int (1 : Int32)), .val (.double px), .second, .val (.double (Jvm.Native.java_lang_Math.nans.pick64 true (Jvm.Native.java_lang_Math.nans.pick64 true FP.dconst0 (FP.dmul u0 (FP.dadd px v0))) (FP.dmul u1 (FP.dadd px v1)))), .second, .val (.int (1 : Int32)), .val (.int (0 : Int32)), .val (.int (1 : Int32)), .val (.int (0 : Int32))] rfl ?_
  refine wiloadN C X8 f8_77 rfl ?_
  refine wiload C X8 f8_78 rfl ?_
  refine wicmp_gt C X8 f8_80 ?_ (fun q => absurd (by decide : ((0 : Int32) < (1 : Int32))) q)
  intro _
  refine wiload C X8 f8_96 rfl ?_
  refine wiconst C X8 f8_98 (2 : Int32) rfl ?_
  refine wiload C X8 f8_99 rfl ?_
  refine wiload C X8 f8_101 rfl ?_
  refine wisub C X8 f8_103 ?_
  refine own_foldI (z := (0 : Int32)) (by decide) ?_
  refine wiconst C X8 f8_104 (1 : Int32) rfl ?_
  refine wiadd C X8 f8_105 ?_
  refine own_foldI (z := (1 : Int32)) (by decide) ?_
  refine wimul C X8 f8_106 ?_
  refine own_foldI (z := (2 : Int32)) (by decide) ?_
  refine wiadd C X8 f8_107 ?_
  refine own_foldI (z := (3 : Int32)) (by decide) ?_
  refine wistore C X8 f8_108 #[.val (.ref a), .val (.int (1 : Int32)), .val (.double px), .second, .val (.double (Jvm.Native.java_lang_Math.nans.pick64 true (Jvm.Native.java_lang_Math.nans.pick64 true FP.dconst0 (FP.dmul u0 (FP.dadd px v0))) (FP.dmul u1 (FP.dadd px v1)))), .second, .val (.int (3 : Int32)), .val (.int (0 : Int32)), .val (.int (1 : Int32)), .val (.int (0 : Int32))] rfl ?_
  refine wiload C X8 f8_110 rfl ?_
  refine wiconst C X8 f8_112 (1 : Int32) rfl ?_
  refine wiadd C X8 f8_113 ?_
  refine own_foldI (z := (1 : Int32)) (by decide) ?_
  refine wistore C X8 f8_114 #[.val (.ref a), .val (.int (1 : Int32)), .val (.double px), .second, .val (.double (Jvm.Native.java_lang_Math.nans.pick64 true (Jvm.Native.java_lang_Math.nans.pick64 true FP.dconst0 (FP.dmul u0 (FP.dadd px v0))) (FP.dmul u1 (FP.dadd px v1)))), .second, .val (.int (3 : Int32)), .val (.int (1 : Int32)), .val (.int (1 : Int32)), .val (.int (0 : Int32))] rfl ?_
  refine wgoto C X8 f8_116 ?_
  refine wdload C X8 f8_24 rfl ?_
  refine waloadN C X8 f8_26 rfl rfl ?_
  refine wget C X8 (host := "") (Or.inl (tw_12 hw)) Via.refl e8 Fld_2 f8_27 ?_
  intro T9 X9 e9
  refine wiconst C X9 f8_30 (2 : Int32) rfl ?_
  refine wiload C X9 f8_31 rfl ?_
  refine wimul C X9 f8_33 ?_
  refine own_foldI (z := (6 : Int32)) (by decide) ?_
  refine wdaload C X9 e9 Arv_4 f8_34 ⟨by decide, by decide⟩ (i := 6) rfl (v := u3) gu3 ?_
  refine wdloadN C X9 f8_35 rfl ?_
  refine waloadN C X9 f8_36 rfl rfl ?_
  refine wget C X9 (host := "") (Or.inl (tw_12 hw)) Via.refl e9 Fld_2 f8_37 ?_
  intro T10 X10 e10
  refine wiconst C X10 f8_40 (2 : Int32) rfl ?_
  refine wiload C X10 f8_41 rfl ?_
  refine wimul C X10 f8_43 ?_
  refine own_foldI (z := (6 : Int32)) (by decide) ?_
  refine wiconst C X10 f8_44 (1 : Int32) rfl ?_
  refine wiadd C X10 f8_45 ?_
  refine own_foldI (z := (7 : Int32)) (by decide) ?_
  refine wdaload C X10 e10 Arv_4 f8_46 ⟨by decide, by decide⟩ (i := 7) rfl (v := v3) gv3 ?_
  refine wdadd C X10 f8_47 (v := (FP.dadd px v3)) rfl (own_H_nn (own_pd hx hl3)) ?_
  refine wdmul C X10 f8_48 (v := (FP.dmul u3 (FP.dadd px v3))) rfl (own_H_nn (own_lv hx hl3)) ?_
  refine wmaxD C X10 (tw_43 hw) (tw_44 hw) (tw_45 hw) (tw_46 hw) e10 f8_49 (own_H_nn (own_H_max (own_H_max own_H_0 (own_lv hx hl0)) (own_lv hx hl1))) (own_H_nn (own_lv hx hl3)) rfl (W := 0) (Nat.le_of_eq rfl) (by decide) (by decide) (by decide) (by decide) ?_
  intro T11 X11 e11
  refine wdstore C X11 f8_52 #[.val (.ref a), .val (.int (1 : Int32)), .val (.double px), .second, .val (.double (Jvm.Native.java_lang_Math.nans.pick64 true (Jvm.Native.java_lang_Math.nans.pick64 true (Jvm.Native.java_lang_Math.nans.pick64 true FP.dconst0 (FP.dmul u0 (FP.dadd px v0))) (FP.dmul u1 (FP.dadd px v1))) (FP.dmul u3 (FP.dadd px v3)))), .second, .val (.int (3 : Int32)), .val (.int (1 : Int32)), .val (.int (1 : Int32)), .val (.int (0 : Int32))] rfl ?_
  refine wiload C X11 f8_54 rfl ?_
  refine wiload C X11 f8_56 rfl ?_
  refine wicmp_ne C X11 f8_58 ?_ (fun q => absurd (by decide : ((1 : Int32) = (1 : Int32))) q)
  intro _
  refine wldc2D C X11 (tw_21 hw) f8_61 ?_
  refine wdload C X11 f8_64 rfl ?_
  refine wdmul C X11 f8_66 (v := (FP.dmul (4611686018427387904 : UInt64) (Jvm.Native.java_lang_Math.nans.pick64 true (Jvm.Native.java_lang_Math.nans.pick64 true (Jvm.Native.java_lang_Math.nans.pick64 true FP.dconst0 (FP.dmul u0 (FP.dadd px v0))) (FP.dmul u1 (FP.dadd px v1))) (FP.dmul u3 (FP.dadd px v3))))) rfl (own_nn (own_H_dbl (own_H_max (own_H_max (own_H_max own_H_0 (own_lv hx hl0)) (own_lv hx hl1)) (own_lv hx hl3)) (by have z0 := own_lvb hx hl0; have z1 := own_lvb hx hl1; have z3 := own_lvb hx hl3; omega))) ?_
  refine wdret C X11 f8_67 rfl (by decide) (by decide) ?_
  rw [e11]
  exact ⟨(FP.dmul (4611686018427387904 : UInt64) (Jvm.Native.java_lang_Math.nans.pick64 true (Jvm.Native.java_lang_Math.nans.pick64 true (Jvm.Native.java_lang_Math.nans.pick64 true FP.dconst0 (FP.dmul u0 (FP.dadd px v0))) (FP.dmul u1 (FP.dadd px v1))) (FP.dmul u3 (FP.dadd px v3)))), rfl, N0, rfl, (by have z0 := own_lvb hx hl0; have z1 := own_lvb hx hl1; have z3 := own_lvb hx hl3; simp only [own_pm]; exact own_di (own_H_dbl (own_H_max (own_H_max (own_H_max own_H_0 (own_lv hx hl0)) (own_lv hx hl1)) (own_lv hx hl3)) (by omega)) (by simp; omega))⟩
theorem ef_8_3_2 (m : MethodId) (a : Addr) (ix : Int32) : entryFrame m #[(.ref a), (.int ix)] 10 = mkF m 0 #[.val (.ref a), .val (.int ix), .unset, .unset, .unset, .unset, .unset, .unset, .unset, .unset] [] := by first | (simp [entryFrame, mkF, argsToLocals, Value.category]; done) | rfl
def Q8_3_2 (Z : State) (a : Addr) (ix : Int32) (ph : Addr) (pl : Addr) (k1 : ClassId) (k2 : ClassId) (hp : List Value) (ls : List Value) (P : Nat → Int) (W : Nat → Int) (D : Nat → Int) (h0 : Heap) (n0 : Nat) (v9 : Option Value) (h9 : Heap) (L9 : List Loc) : Prop := ∃ (rv : UInt64), v9 = some (.double rv) ∧ Fr n0 L9 ∧ h9 = h0 ∧ (FP.Core.DInt (own_pm 3 0 0 (3 - 1) W D (P 2) 2) rv)
set_option maxRecDepth 65536 in
set_option maxHeartbeats 40000000 in
theorem rm8_3_2 (l : Launch) (Z : State) (a0 : Array Value) (hw : ∀ d ∈ tables_1, d.before a0 Z = true) (ws : List Jvm.Cond) (a : Addr) (ix : Int32) (ph : Addr) (pl : Addr) (k1 : ClassId) (k2 : ClassId) (hp : List Value) (ls : List Value) (P : Nat → Int) (W : Nat → Int) (D : Nat → Int) (h0 : Heap) (n0 : Nat) (Z0 : n0 ≤ h0.size) (Fld_0 : Fld Z h0 a "com/example/arbor_center/arborcenter/objective/UpperEnvelope" "halfPoints" "[D" (.ref ph)) (Fld_1 : Fld Z h0 a "com/example/arbor_center/arborcenter/objective/UpperEnvelope" "count" "I" (.int (3 : Int32))) (Fld_2 : Fld Z h0 a "com/example/arbor_center/arborcenter/objective/UpperEnvelope" "lines" "[D" (.ref pl)) (Arv_3 : Arv Z h0 ph k1 .double (4 : Int32) hp (.double (0 : UInt64))) (Arv_4 : Arv Z h0 pl k2 .double (14 : Int32) ls (.double (0 : UInt64))) (hix : (ix = (2 : Int32))) (hL : (own_Ls ls W D)) (hP : (own_Ps hp P 3)) :
    MetFree l (⟨"com/example/arbor_center/arborcenter/objective/UpperEnvelope", "at", "(I)D"⟩ : MethodName) (head1 (Jvm.Cond.code (⟨"com/example/arbor_center/arborcenter/objective/UpperEnvelope", "at", "(I)D"⟩ : MethodName) prog_12_method_4_code 10 (some .double) :: ws) ({ frames := 1, cells := 0, slots := 0, locals := 15 } : Room)) (fun A9 U9 => A9 = #[(.ref a), (.int ix)] ∧ Z.Warmed39 U9.vm ∧ U9.heap = h0) (fun _ _ _ _ _ => True) (fun _ U9 o9 V9 => ∃ v9 L9, o9 = .returned v9 ∧ (Q8_3_2 Z a ix ph pl k1 k2 hp ls P W D h0 n0) v9 V9.heap L9 ∧ FrameEnd U9 o9 V9 L9 ({ frames := 1, cells := 0, slots := 0, locals := 15 } : Room).cells ({ frames := 1, cells := 0, slots := 0, locals := 15 } : Room).slots) := by
  refine met_of (Q := (Q8_3_2 Z a ix ph pl k1 k2 hp ls P W D h0 n0)) pn_8 ?_
  intro p e s m below meth c T0 C X0 e0
  have N0 := Fr.nil n0
  refine Go.cast (ef_8_3_2 m a ix) ?_
  subst hix
  obtain ⟨px, gx, hx⟩ := hP.2 2 (by decide)
  obtain ⟨u0, v0, gu0, gv0, hl0⟩ := hL.2 0 (by decide)
  obtain ⟨u4, v4, gu4, gv4, hl4⟩ := hL.2 4 (by decide)
  refine waloadN C X0 f8_0 rfl rfl ?_
  refine wget C X0 (host := "") (Or.inl (tw_10 hw)) Via.refl e0 Fld_0 f8_1 ?_
  intro T1 X1 e1
  refine wiloadN C X1 f8_4 rfl ?_
  refine wdaload C X1 e1 Arv_3 f8_5 ⟨by decide, by decide⟩ (i := 2) rfl (v := px) gx ?_
  refine wdstoreN C X1 f8_6 #[.val (.ref a), .val (.int (2 : Int32)), .val (.double px), .second, .unset, .unset, .unset, .unset, .unset, .unset] rfl ?_
  refine wdconst0 C X1 f8_7 ?_
  refine wdstore C X1 f8_8 #[.val (.ref a), .val (.int (2 : Int32)), .val (.double px), .second, .val (.double FP.dconst0), .second, .unset, .unset, .unset, .unset] rfl ?_
  refine wiconst C X1 f8_10 (0 : Int32) rfl ?_
  refine wistore C X1 f8_11 #[.val (.ref a), .val (.int (2 : Int32)), .val (.double px), .second, .val (.double FP.dconst0), .second, .val (.int (0 : Int32)), .unset, .unset, .unset] rfl ?_
  refine wiconst C X1 f8_13 (0 : Int32) rfl ?_
  refine wistore C X1 f8_14 #[.val (.ref a), .val (.int (2 : Int32)), .val (.double px), .second, .val (.double FP.dconst0), .second, .val (.int (0 : Int32)), .val (.int (0 : Int32)), .unset, .unset] rfl ?_
  refine waloadN C X1 f8_16 rfl rfl ?_
  refine wget C X1 (host := "") (Or.inl (tw_19 hw)) Via.refl e1 Fld_1 f8_17 ?_
  intro T2 X2 e2
  refine wiconst C X2 f8_20 (1 : Int32) rfl ?_
  refine wisub C X2 f8_21 ?_
  refine own_foldI (z := (2 : Int32)) (by decide) ?_
  refine wistore C X2 f8_22 #[.val (.ref a), .val (.int (2 : Int32)), .val (.double px), .second, .val (.double FP.dconst0), .second, .val (.int (0 : Int32)), .val (.int (0 : Int32)), .val (.int (2 : Int32)), .unset] rfl ?_
  refine wdload C X2 f8_24 rfl ?_
  refine waloadN C X2 f8_26 rfl rfl ?_
  refine wget C X2 (host := "") (Or.inl (tw_12 hw)) Via.refl e2 Fld_2 f8_27 ?_
  intro T3 X3 e3
  refine wiconst C X3 f8_30 (2 : Int32) rfl ?_
  refine wiload C X3 f8_31 rfl ?_
  refine wimul C X3 f8_33 ?_
  refine own_foldI (z := (0 : Int32)) (by decide) ?_
  refine wdaload C X3 e3 Arv_4 f8_34 ⟨by decide, by decide⟩ (i := 0) rfl (v := u0) gu0 ?_
  refine wdloadN C X3 f8_35 rfl ?_
  refine waloadN C X3 f8_36 rfl rfl ?_
  refine wget C X3 (host := "") (Or.inl (tw_12 hw)) Via.refl e3 Fld_2 f8_37 ?_
  intro T4 X4 e4
  refine wiconst C X4 f8_40 (2 : Int32) rfl ?_
  refine wiload C X4 f8_41 rfl ?_
  refine wimul C X4 f8_43 ?_
  refine own_foldI (z := (0 : Int32)) (by decide) ?_
  refine wiconst C X4 f8_44 (1 : Int32) rfl ?_
  refine wiadd C X4 f8_45 ?_
  refine own_foldI (z := (1 : Int32)) (by decide) ?_
  refine wdaload C X4 e4 Arv_4 f8_46 ⟨by decide, by decide⟩ (i := 1) rfl (v := v0) gv0 ?_
  refine wdadd C X4 f8_47 (v := (FP.dadd px v0)) rfl (own_H_nn (own_pd hx hl0)) ?_
  refine wdmul C X4 f8_48 (v := (FP.dmul u0 (FP.dadd px v0))) rfl (own_H_nn (own_lv hx hl0)) ?_
  refine wmaxD C X4 (tw_43 hw) (tw_44 hw) (tw_45 hw) (tw_46 hw) e4 f8_49 (own_H_nn own_H_0) (own_H_nn (own_lv hx hl0)) rfl (W := 0) (Nat.le_of_eq rfl) (by decide) (by decide) (by decide) (by decide) ?_
  intro T5 X5 e5
  refine wdstore C X5 f8_52 #[.val (.ref a), .val (.int (2 : Int32)), .val (.double px), .second, .val (.double (Jvm.Native.java_lang_Math.nans.pick64 true FP.dconst0 (FP.dmul u0 (FP.dadd px v0)))), .second, .val (.int (0 : Int32)), .val (.int (0 : Int32)), .val (.int (2 : Int32)), .unset] rfl ?_
  refine wiload C X5 f8_54 rfl ?_
  refine wiload C X5 f8_56 rfl ?_
  refine wicmp_ne C X5 f8_58 (fun q => absurd q (by decide : ¬ ((0 : Int32) = (2 : Int32)))) ?_
  intro _
  refine wiload C X5 f8_68 rfl ?_
  refine wiload C X5 f8_70 rfl ?_
  refine wiadd C X5 f8_72 ?_
  refine own_foldI (z := (2 : Int32)) (by decide) ?_
  refine wiconst C X5 f8_73 (1 : Int32) rfl ?_
  refine wiushr C X5 f8_74 ?_
  refine own_foldI (z := (1 : Int32)) (by decide) ?_
  refine wistore C X5 f8_75 #[.val (.ref a), .val (.int (2 : Int32)), .val (.double px), .second, .val (.double (Jvm.Native.java_lang_Math.nans.pick64 true FP.dconst0 (FP.dmul u0 (FP.dadd px v0)))), .second, .val (.int (0 : Int32)), .val (.int (0 : Int32)), .val (.int (2 : Int32)), .val (.int (1 : Int32))] rfl ?_
  refine wiloadN C X5 f8_77 rfl ?_
  refine wiload C X5 f8_78 rfl ?_
  refine wicmp_gt C X5 f8_80 ?_ (fun q => absurd (by decide : ((1 : Int32) < (2 : Int32))) q)
  intro _
  refine wiload C X5 f8_96 rfl ?_
  refine wiconst C X5 f8_98 (2 : Int32) rfl ?_
  refine wiload C X5 f8_99 rfl ?_
  refine wiload C X5 f8_101 rfl ?_
  refine wisub C X5 f8_103 ?_
  refine own_foldI (z := (1 : Int32)) (by decide) ?_
  refine wiconst C X5 f8_104 (1 : Int32) rfl ?_
  refine wiadd C X5 f8_105 ?_
  refine own_foldI (z := (2 : Int32)) (by decide) ?_
  refine wimul C X5 f8_106 ?_
  refine own_foldI (z := (4 : Int32)) (by decide) ?_
  refine wiadd C X5 f8_107 ?_
  refine own_foldI (z := (4 : Int32)) (by decide) ?_
  refine wistore C X5 f8_108 #[.val (.ref a), .val (.int (2 : Int32)), .val (.double px), .second, .val (.double (Jvm.Native.java_lang_Math.nans.pick64 true FP.dconst0 (FP.dmul u0 (FP.dadd px v0)))), .second, .val (.int (4 : Int32)), .val (.int (0 : Int32)), .val (.int (2 : Int32)), .val (.int (1 : Int32))] rfl ?_
  refine wiload C X5 f8_110 rfl ?_
  refine wiconst C X5 f8_112 (1 : Int32) rfl ?_
  refine wiadd C X5 f8_113 ?_
  refine own_foldI (z := (2 : Int32)) (by decide) ?_
  refine wistore C X5 f8_114 #[.val (.ref a), .val (.int (2 : Int32)), .val (.double px), .second, .val (.double (Jvm.Native.java_lang_Math.nans.pick64 true FP.dconst0 (FP.dmul u0 (FP.dadd px v0)))), .second, .val (.int (4 : Int32)), .val (.int (2 : Int32)), .val (.int (2 : Int32)), .val (.int (1 : Int32))] rfl ?_
  refine wgoto C X5 f8_116 ?_
  refine wdload C X5 f8_24 rfl ?_
  refine waloadN C X5 f8_26 rfl rfl ?_
  refine wget C X5 (host := "") (Or.inl (tw_12 hw)) Via.refl e5 Fld_2 f8_27 ?_
  intro T6 X6 e6
  refine wiconst C X6 f8_30 (2 : Int32) rfl ?_
  refine wiload C X6 f8_31 rfl ?_
  refine wimul C X6 f8_33 ?_
  refine own_foldI (z := (8 : Int32)) (by decide) ?_
  refine wdaload C X6 e6 Arv_4 f8_34 ⟨by decide, by decide⟩ (i := 8) rfl (v := u4) gu4 ?_
  refine wdloadN C X6 f8_35 rfl ?_
  refine waloadN C X6 f8_36 rfl rfl ?_
  refine wget C X6 (host := "") (Or.inl (tw_12 hw)) Via.refl e6 Fld_2 f8_37 ?_
  intro T7 X7 e7
  refine wiconst C X7 f8_40 (2 : Int32) rfl ?_
  refine wiload C X7 f8_41 rfl ?_
  refine wimul C X7 f8_43 ?_
  refine own_foldI (z := (8 : Int32)) (by decide) ?_
  refine wiconst C X7 f8_44 (1 : Int32) rfl ?_
  refine wiadd C X7 f8_45 ?_
  refine own_foldI (z := (9 : Int32)) (by decide) ?_
  refine wdaload C X7 e7 Arv_4 f8_46 ⟨by decide, by decide⟩ (i := 9) rfl (v := v4) gv4 ?_
  refine wdadd C X7 f8_47 (v := (FP.dadd px v4)) rfl (own_H_nn (own_pd hx hl4)) ?_
  refine wdmul C X7 f8_48 (v := (FP.dmul u4 (FP.dadd px v4))) rfl (own_H_nn (own_lv hx hl4)) ?_
  refine wmaxD C X7 (tw_43 hw) (tw_44 hw) (tw_45 hw) (tw_46 hw) e7 f8_49 (own_H_nn (own_H_max own_H_0 (own_lv hx hl0))) (own_H_nn (own_lv hx hl4)) rfl (W := 0) (Nat.le_of_eq rfl) (by decide) (by decide) (by decide) (by decide) ?_
  intro T8 X8 e8
  refine wdstore C X8 f8_52 #[.val (.ref a), .val (.int (2 : Int32)), .val (.double px), .second, .val (.double (Jvm.Native.java_lang_Math.nans.pick64 true (Jvm.Native.java_lang_Math.nans.pick64 true FP.dconst0 (FP.dmul u0 (FP.dadd px v0))) (FP.dmul u4 (FP.dadd px v4)))), .second, .val (.int (4 : Int32)), .val (.int (2 : Int32)), .val (.int (2 : Int32)), .val (.int (1 : Int32))] rfl ?_
  refine wiload C X8 f8_54 rfl ?_
  refine wiload C X8 f8_56 rfl ?_
  refine wicmp_ne C X8 f8_58 ?_ (fun q => absurd (by decide : ((2 : Int32) = (2 : Int32))) q)
  intro _
  refine wldc2D C X8 (tw_21 hw) f8_61 ?_
  refine wdload C X8 f8_64 rfl ?_
  refine wdmul C X8 f8_66 (v := (FP.dmul (4611686018427387904 : UInt64) (Jvm.Native.java_lang_Math.nans.pick64 true (Jvm.Native.java_lang_Math.nans.pick64 true FP.dconst0 (FP.dmul u0 (FP.dadd px v0))) (FP.dmul u4 (FP.dadd px v4))))) rfl (own_nn (own_H_dbl (own_H_max (own_H_max own_H_0 (own_lv hx hl0)) (own_lv hx hl4)) (by have z0 := own_lvb hx hl0; have z4 := own_lvb hx hl4; omega))) ?_
  refine wdret C X8 f8_67 rfl (by decide) (by decide) ?_
  rw [e8]
  exact ⟨(FP.dmul (4611686018427387904 : UInt64) (Jvm.Native.java_lang_Math.nans.pick64 true (Jvm.Native.java_lang_Math.nans.pick64 true FP.dconst0 (FP.dmul u0 (FP.dadd px v0))) (FP.dmul u4 (FP.dadd px v4)))), rfl, N0, rfl, (by have z0 := own_lvb hx hl0; have z4 := own_lvb hx hl4; simp only [own_pm]; exact own_di (own_H_dbl (own_H_max (own_H_max own_H_0 (own_lv hx hl0)) (own_lv hx hl4)) (by omega)) (by simp; omega))⟩
theorem ef_8_4_0 (m : MethodId) (a : Addr) (ix : Int32) : entryFrame m #[(.ref a), (.int ix)] 10 = mkF m 0 #[.val (.ref a), .val (.int ix), .unset, .unset, .unset, .unset, .unset, .unset, .unset, .unset] [] := by first | (simp [entryFrame, mkF, argsToLocals, Value.category]; done) | rfl
def Q8_4_0 (Z : State) (a : Addr) (ix : Int32) (ph : Addr) (pl : Addr) (k1 : ClassId) (k2 : ClassId) (hp : List Value) (ls : List Value) (P : Nat → Int) (W : Nat → Int) (D : Nat → Int) (h0 : Heap) (n0 : Nat) (v9 : Option Value) (h9 : Heap) (L9 : List Loc) : Prop := ∃ (rv : UInt64), v9 = some (.double rv) ∧ Fr n0 L9 ∧ h9 = h0 ∧ (FP.Core.DInt (own_pm 3 0 0 (4 - 1) W D (P 0) 0) rv)
set_option maxRecDepth 65536 in
set_option maxHeartbeats 40000000 in
theorem rm8_4_0 (l : Launch) (Z : State) (a0 : Array Value) (hw : ∀ d ∈ tables_1, d.before a0 Z = true) (ws : List Jvm.Cond) (a : Addr) (ix : Int32) (ph : Addr) (pl : Addr) (k1 : ClassId) (k2 : ClassId) (hp : List Value) (ls : List Value) (P : Nat → Int) (W : Nat → Int) (D : Nat → Int) (h0 : Heap) (n0 : Nat) (Z0 : n0 ≤ h0.size) (Fld_0 : Fld Z h0 a "com/example/arbor_center/arborcenter/objective/UpperEnvelope" "halfPoints" "[D" (.ref ph)) (Fld_1 : Fld Z h0 a "com/example/arbor_center/arborcenter/objective/UpperEnvelope" "count" "I" (.int (4 : Int32))) (Fld_2 : Fld Z h0 a "com/example/arbor_center/arborcenter/objective/UpperEnvelope" "lines" "[D" (.ref pl)) (Arv_3 : Arv Z h0 ph k1 .double (4 : Int32) hp (.double (0 : UInt64))) (Arv_4 : Arv Z h0 pl k2 .double (14 : Int32) ls (.double (0 : UInt64))) (hix : (ix = (0 : Int32))) (hL : (own_Ls ls W D)) (hP : (own_Ps hp P 4)) :
    MetFree l (⟨"com/example/arbor_center/arborcenter/objective/UpperEnvelope", "at", "(I)D"⟩ : MethodName) (head1 (Jvm.Cond.code (⟨"com/example/arbor_center/arborcenter/objective/UpperEnvelope", "at", "(I)D"⟩ : MethodName) prog_12_method_4_code 10 (some .double) :: ws) ({ frames := 1, cells := 0, slots := 0, locals := 15 } : Room)) (fun A9 U9 => A9 = #[(.ref a), (.int ix)] ∧ Z.Warmed39 U9.vm ∧ U9.heap = h0) (fun _ _ _ _ _ => True) (fun _ U9 o9 V9 => ∃ v9 L9, o9 = .returned v9 ∧ (Q8_4_0 Z a ix ph pl k1 k2 hp ls P W D h0 n0) v9 V9.heap L9 ∧ FrameEnd U9 o9 V9 L9 ({ frames := 1, cells := 0, slots := 0, locals := 15 } : Room).cells ({ frames := 1, cells := 0, slots := 0, locals := 15 } : Room).slots) := by
  refine met_of (Q := (Q8_4_0 Z a ix ph pl k1 k2 hp ls P W D h0 n0)) pn_8 ?_
  intro p e s m below meth c T0 C X0 e0
  have N0 := Fr.nil n0
  refine Go.cast (ef_8_4_0 m a ix) ?_
  subst hix
  obtain ⟨px, gx, hx⟩ := hP.2 0 (by decide)
  obtain ⟨u0, v0, gu0, gv0, hl0⟩ := hL.2 0 (by decide)
  obtain ⟨u1, v1, gu1, gv1, hl1⟩ := hL.2 1 (by decide)
  obtain ⟨u2, v2, gu2, gv2, hl2⟩ := hL.2 2 (by decide)
  refine waloadN C X0 f8_0 rfl rfl ?_
  refine wget C X0 (host := "") (Or.inl (tw_10 hw)) Via.refl e0 Fld_0 f8_1 ?_
  intro T1 X1 e1
  refine wiloadN C X1 f8_4 rfl ?_
  refine wdaload C X1 e1 Arv_3 f8_5 ⟨by decide, by decide⟩ (i := 0) rfl (v := px) gx ?_
  refine wdstoreN C X1 f8_6 #[.val (.ref a), .val (.int (0 : Int32)), .val (.double px), .second, .unset, .unset, .unset, .unset, .unset, .unset] rfl ?_
  refine wdconst0 C X1 f8_7 ?_
  refine wdstore C X1 f8_8 #[.val (.ref a), .val (.int (0 : Int32)), .val (.double px), .second, .val (.double FP.dconst0), .second, .unset, .unset, .unset, .unset] rfl ?_
  refine wiconst C X1 f8_10 (0 : Int32) rfl ?_
  refine wistore C X1 f8_11 #[.val (.ref a), .val (.int (0 : Int32)), .val (.double px), .second, .val (.double FP.dconst0), .second, .val (.int (0 : Int32)), .unset, .unset, .unset] rfl ?_
  refine wiconst C X1 f8_13 (0 : Int32) rfl ?_
  refine wistore C X1 f8_14 #[.val (.ref a), .val (.int (0 : Int32)), .val (.double px), .second, .val (.double FP.dconst0), .second, .val (.int (0 : Int32)), .val (.int (0 : Int32)), .unset, .unset] rfl ?_
  refine waloadN C X1 f8_16 rfl rfl ?_
  refine wget C X1 (host := "") (Or.inl (tw_19 hw)) Via.refl e1 Fld_1 f8_17 ?_
  intro T2 X2 e2
  refine wiconst C X2 f8_20 (1 : Int32) rfl ?_
  refine wisub C X2 f8_21 ?_
  refine own_foldI (z := (3 : Int32)) (by decide) ?_
  refine wistore C X2 f8_22 #[.val (.ref a), .val (.int (0 : Int32)), .val (.double px), .second, .val (.double FP.dconst0), .second, .val (.int (0 : Int32)), .val (.int (0 : Int32)), .val (.int (3 : Int32)), .unset] rfl ?_
  refine wdload C X2 f8_24 rfl ?_
  refine waloadN C X2 f8_26 rfl rfl ?_
  refine wget C X2 (host := "") (Or.inl (tw_12 hw)) Via.refl e2 Fld_2 f8_27 ?_
  intro T3 X3 e3
  refine wiconst C X3 f8_30 (2 : Int32) rfl ?_
  refine wiload C X3 f8_31 rfl ?_
  refine wimul C X3 f8_33 ?_
  refine own_foldI (z := (0 : Int32)) (by decide) ?_
  refine wdaload C X3 e3 Arv_4 f8_34 ⟨by decide, by decide⟩ (i := 0) rfl (v := u0) gu0 ?_
  refine wdloadN C X3 f8_35 rfl ?_
  refine waloadN C X3 f8_36 rfl rfl ?_
  refine wget C X3 (host := "") (Or.inl (tw_12 hw)) Via.refl e3 Fld_2 f8_37 ?_
  intro T4 X4 e4
  refine wiconst C X4 f8_40 (2 : Int32) rfl ?_
  refine wiload C X4 f8_41 rfl ?_
  refine wimul C X4 f8_43 ?_
  refine own_foldI (z := (0 : Int32)) (by decide) ?_
  refine wiconst C X4 f8_44 (1 : Int32) rfl ?_
  refine wiadd C X4 f8_45 ?_
  refine own_foldI (z := (1 : Int32)) (by decide) ?_
  refine wdaload C X4 e4 Arv_4 f8_46 ⟨by decide, by decide⟩ (i := 1) rfl (v := v0) gv0 ?_
  refine wdadd C X4 f8_47 (v := (FP.dadd px v0)) rfl (own_H_nn (own_pd hx hl0)) ?_
  refine wdmul C X4 f8_48 (v := (FP.dmul u0 (FP.dadd px v0))) rfl (own_H_nn (own_lv hx hl0)) ?_
  refine wmaxD C X4 (tw_43 hw) (tw_44 hw) (tw_45 hw) (tw_46 hw) e4 f8_49 (own_H_nn own_H_0) (own_H_nn (own_lv hx hl0)) rfl (W := 0) (Nat.le_of_eq rfl) (by decide) (by decide) (by decide) (by decide) ?_
  intro T5 X5 e5
  refine wdstore C X5 f8_52 #[.val (.ref a), .val (.int (0 : Int32)), .val (.double px), .second, .val (.double (Jvm.Native.java_lang_Math.nans.pick64 true FP.dconst0 (FP.dmul u0 (FP.dadd px v0)))), .second, .val (.int (0 : Int32)), .val (.int (0 : Int32)), .val (.int (3 : Int32)), .unset] rfl ?_
  refine wiload C X5 f8_54 rfl ?_
  refine wiload C X5 f8_56 rfl ?_
  refine wicmp_ne C X5 f8_58 (fun q => absurd q (by decide : ¬ ((0 : Int32) = (3 : Int32)))) ?_
  intro _
  refine wiload C X5 f8_68 rfl ?_
  refine wiload C X5 f8_70 rfl ?_
  refine wiadd C X5 f8_72 ?_
  refine own_foldI (z := (3 : Int32)) (by decide) ?_
  refine wiconst C X5 f8_73 (1 : Int32) rfl ?_
  refine wiushr C X5 f8_74 ?_
  refine own_foldI (z := (1 : Int32)) (by decide) ?_
  refine wistore C X5 f8_75 #[.val (.ref a), .val (.int (0 : Int32)), .val (.double px), .second, .val (.double (Jvm.Native.java_lang_Math.nans.pick64 true FP.dconst0 (FP.dmul u0 (FP.dadd px v0)))), .second, .val (.int (0 : Int32)), .val (.int (0 : Int32)), .val (.int (3 : Int32)), .val (.int (1 : Int32))] rfl ?_
  refine wiloadN C X5 f8_77 rfl ?_
  refine wiload C X5 f8_78 rfl ?_
  refine wicmp_gt C X5 f8_80 (fun q => absurd q (by decide : ¬ ((1 : Int32) < (0 : Int32)))) ?_
  intro _
  refine wiload C X5 f8_83 rfl ?_
  refine wiconst C X5 f8_85 (1 : Int32) rfl ?_
  refine wiadd C X5 f8_86 ?_
  refine own_foldI (z := (1 : Int32)) (by decide) ?_
  refine wistore C X5 f8_87 #[.val (.ref a), .val (.int (0 : Int32)), .val (.double px), .second, .val (.double (Jvm.Native.java_lang_Math.nans.pick64 true FP.dconst0 (FP.dmul u0 (FP.dadd px v0)))), .second, .val (.int (1 : Int32)), .val (.int (0 : Int32)), .val (.int (3 : Int32)), .val (.int (1 : Int32))] rfl ?_
  refine wiload C X5 f8_89 rfl ?_
  refine wistore C X5 f8_91 #[.val (.ref a), .val (.int (0 : Int32)), .val (.double px), .second, .val (.double (Jvm.Native.java_lang_Math.nans.pick64 true FP.dconst0 (FP.dmul u0 (FP.dadd px v0)))), .second, .val (.int (1 : Int32)), .val (.int (0 : Int32)), .val (.int (1 : Int32)), .val (.int (1 : Int32))] rfl ?_
  refine wgoto C X5 f8_93 ?_
  refine wgoto C X5 f8_116 ?_
  refine wdload C X5 f8_24 rfl ?_
  refine waloadN C X5 f8_26 rfl rfl ?_
  refine wget C X5 (host := "") (Or.inl (tw_12 hw)) Via.refl e5 Fld_2 f8_27 ?_
  intro T6 X6 e6
  refine wiconst C X6 f8_30 (2 : Int32) rfl ?_
  refine wiload C X6 f8_31 rfl ?_
  refine wimul C X6 f8_33 ?_
  refine own_foldI (z := (2 : Int32)) (by decide) ?_
  refine wdaload C X6 e6 Arv_4 f8_34 ⟨by decide, by decide⟩ (i := 2) rfl (v := u1) gu1 ?_
  refine wdloadN C X6 f8_35 rfl ?_
  refine waloadN C X6 f8_36 rfl rfl ?_
  refine wget C X6 (host := "") (Or.inl (tw_12 hw)) Via.refl e6 Fld_2 f8_37 ?_
  intro T7 X7 e7
  refine wiconst C X7 f8_40 (2 : Int32) rfl ?_
  refine wiload C X7 f8_41 rfl ?_
  refine wimul C X7 f8_43 ?_
  refine own_foldI (z := (2 : Int32)) (by decide) ?_
  refine wiconst C X7 f8_44 (1 : Int32) rfl ?_
  refine wiadd C X7 f8_45 ?_
  refine own_foldI (z := (3 : Int32)) (by decide) ?_
  refine wdaload C X7 e7 Arv_4 f8_46 ⟨by decide, by decide⟩ (i := 3) rfl (v := v1) gv1 ?_
  refine wdadd C X7 f8_47 (v := (FP.dadd px v1)) rfl (own_H_nn (own_pd hx hl1)) ?_
  refine wdmul C X7 f8_48 (v := (FP.dmul u1 (FP.dadd px v1))) rfl (own_H_nn (own_lv hx hl1)) ?_
  refine wmaxD C X7 (tw_43 hw) (tw_44 hw) (tw_45 hw) (tw_46 hw) e7 f8_49 (own_H_nn (own_H_max own_H_0 (own_lv hx hl0))) (own_H_nn (own_lv hx hl1)) rfl (W := 0) (Nat.le_of_eq rfl) (by decide) (by decide) (by decide) (by decide) ?_
  intro T8 X8 e8
  refine wdstore C X8 f8_52 #[.val (.ref a), .val (.int (0 : Int32)), .val (.double px), .second, .val (.double (Jvm.Native.java_lang_Math.nans.pick64 true (Jvm.Native.java_lang_Math.nans.pick64 true FP.dconst0 (FP.dmul u0 (FP.dadd px v0))) (FP.dmul u1 (FP.dadd px v1)))), .second, .val (.int (1 : Int32)), .val (.int (0 : Int32)), .val (.int (1 : Int32)), .val (.int (1 : Int32))] rfl ?_
  refine wiload C X8 f8_54 rfl ?_
  refine wiload C X8 f8_56 rfl ?_
  refine wicmp_ne C X8 f8_58 (fun q => absurd q (by decide : ¬ ((0 : Int32) = (1 : Int32)))) ?_
  intro _
  refine wiload C X8 f8_68 rfl ?_
  refine wiload C X8 f8_70 rfl ?_
  refine wiadd C X8 f8_72 ?_
  refine own_foldI (z := (1 : Int32)) (by decide) ?_
  refine wiconst C X8 f8_73 (1 : Int32) rfl ?_
  refine wiushr C X8 f8_74 ?_
  refine own_foldI (z := (0 : Int32)) (by decide) ?_
  refine wistore C X8 f8_75 #[.val (.ref a), .val (.int (0 : Int32)), .val (.double px), .second, .val (.double (Jvm.Native.java_lang_Math.nans.pick64 true (Jvm.Native.java_lang_Math.nans.pick64 true FP.dconst0 (FP.dmul u0 (FP.dadd px v0))) (FP.dmul u1 (FP.dadd px v1)))), .second, .val (.int (1 : Int32)), .val (.int (0 : Int32)), .val (.int (1 : Int32)), .val (.int (0 : Int32))] rfl ?_
  refine wiloadN C X8 f8_77 rfl ?_
  refine wiload C X8 f8_78 rfl ?_
  refine wicmp_gt C X8 f8_80 (fun q => absurd q (by decide : ¬ ((0 : Int32) < (0 : Int32)))) ?_
  intro _
  refine wiload C X8 f8_83 rfl ?_
  refine wiconst C X8 f8_85 (1 : Int32) rfl ?_
  refine wiadd C X8 f8_86 ?_
  refine own_foldI (z := (2 : Int32)) (by decide) ?_
  refine wistore C X8 f8_87 #[.val (.ref a), .val (.int (0 : Int32)), .val (.double px), .second, .val (.double (Jvm.Native.java_lang_Math.nans.pick64 true (Jvm.Native.java_lang_Math.nans.pick64 true FP.dconst0 (FP.dmul u0 (FP.dadd px v0))) (FP.dmul u1 (FP.dadd px v1)))), .second, .val (.int (2 : Int32)), .val (.int (0 : Int32)), .val (.int (1 : Int32)), .val (.int (0 : Int32))] rfl ?_
  refine wiload C X8 f8_89 rfl ?_
  refine wistore C X8 f8_91 #[.val (.ref a), .val (.int (0 : Int32)), .val (.double px), .second, .val (.double (Jvm.Native.java_lang_Math.nans.pick64 true (Jvm.Native.java_lang_Math.nans.pick64 true FP.dconst0 (FP.dmul u0 (FP.dadd px v0))) (FP.dmul u1 (FP.dadd px v1)))), .second, .val (.int (2 : Int32)), .val (.int (0 : Int32)), .val (.int (0 : Int32)), .val (.int (0 : Int32))] rfl ?_
  refine wgoto C X8 f8_93 ?_
  refine wgoto C X8 f8_116 ?_
  refine wdload C X8 f8_24 rfl ?_
  refine waloadN C X8 f8_26 rfl rfl ?_
  refine wget C X8 (host := "") (Or.inl (tw_12 hw)) Via.refl e8 Fld_2 f8_27 ?_
  intro T9 X9 e9
  refine wiconst C X9 f8_30 (2 : Int32) rfl ?_
  refine wiload C X9 f8_31 rfl ?_
  refine wimul C X9 f8_33 ?_
  refine own_foldI (z := (4 : Int32)) (by decide) ?_
  refine wdaload C X9 e9 Arv_4 f8_34 ⟨by decide, by decide⟩ (i := 4) rfl (v := u2) gu2 ?_
  refine wdloadN C X9 f8_35 rfl ?_
  refine waloadN C X9 f8_36 rfl rfl ?_
  refine wget C X9 (host := "") (Or.inl (tw_12 hw)) Via.refl e9 Fld_2 f8_37 ?_
  intro T10 X10 e10
  refine wiconst C X10 f8_40 (2 : Int32) rfl ?_
  refine wiload C X10 f8_41 rfl ?_
  refine wimul C X10 f8_43 ?_
  refine own_foldI (z := (4 : Int32)) (by decide) ?_
  refine wiconst C X10 f8_44 (1 : Int32) rfl ?_
  refine wiadd C X10 f8_45 ?_
  refine own_foldI (z := (5 : Int32)) (by decide) ?_
  refine wdaload C X10 e10 Arv_4 f8_46 ⟨by decide, by decide⟩ (i := 5) rfl (v := v2) gv2 ?_
  refine wdadd C X10 f8_47 (v := (FP.dadd px v2)) rfl (own_H_nn (own_pd hx hl2)) ?_
  refine wdmul C X10 f8_48 (v := (FP.dmul u2 (FP.dadd px v2))) rfl (own_H_nn (own_lv hx hl2)) ?_
  refine wmaxD C X10 (tw_43 hw) (tw_44 hw) (tw_45 hw) (tw_46 hw) e10 f8_49 (own_H_nn (own_H_max (own_H_max own_H_0 (own_lv hx hl0)) (own_lv hx hl1))) (own_H_nn (own_lv hx hl2)) rfl (W := 0) (Nat.le_of_eq rfl) (by decide) (by decide) (by decide) (by decide) ?_
  intro T11 X11 e11
  refine wdstore C X11 f8_52 #[.val (.ref a), .val (.int (0 : Int32)), .val (.double px), .second, .val (.double (Jvm.Native.java_lang_Math.nans.pick64 true (Jvm.Native.java_lang_Math.nans.pick64 true (Jvm.Native.java_lang_Math.nans.pick64 true FP.dconst0 (FP.dmul u0 (FP.dadd px v0))) (FP.dmul u1 (FP.dadd px v1))) (FP.dmul u2 (FP.dadd px v2)))), .second, .val (.int (2 : Int32)), .val (.int (0 : Int32)), .val (.int (0 : Int32)), .val (.int (0 : Int32))] rfl ?_
  refine wiload C X11 f8_54 rfl ?_
  refine wiload C X11 f8_56 rfl ?_
  refine wicmp_ne C X11 f8_58 ?_ (fun q => absurd (by decide : ((0 : Int32) = (0 : Int32))) q)
  intro _
  refine wldc2D C X11 (tw_21 hw) f8_61 ?_
  refine wdload C X11 f8_64 rfl ?_
  refine wdmul C X11 f8_66 (v := (FP.dmul (4611686018427387904 : UInt64) (Jvm.Native.java_lang_Math.nans.pick64 true (Jvm.Native.java_lang_Math.nans.pick64 true (Jvm.Native.java_lang_Math.nans.pick64 true FP.dconst0 (FP.dmul u0 (FP.dadd px v0))) (FP.dmul u1 (FP.dadd px v1))) (FP.dmul u2 (FP.dadd px v2))))) rfl (own_nn (own_H_dbl (own_H_max (own_H_max (own_H_max own_H_0 (own_lv hx hl0)) (own_lv hx hl1)) (own_lv hx hl2)) (by have z0 := own_lvb hx hl0; have z1 := own_lvb hx hl1; have z2 := own_lvb hx hl2; omega))) ?_
  refine wdret C X11 f8_67 rfl (by decide) (by decide) ?_
  rw [e11]
  exact ⟨(FP.dmul (4611686018427387904 : UInt64) (Jvm.Native.java_lang_Math.nans.pick64 true (Jvm.Native.java_lang_Math.nans.pick64 true (Jvm.Native.java_lang_Math.nans.pick64 true FP.dconst0 (FP.dmul u0 (FP.dadd px v0))) (FP.dmul u1 (FP.dadd px v1))) (FP.dmul u2 (FP.dadd px v2)))), rfl, N0, rfl, (by have z0 := own_lvb hx hl0; have z1 := own_lvb hx hl1; have z2 := own_lvb hx hl2; simp only [own_pm]; exact own_di (own_H_dbl (own_H_max (own_H_max (own_H_max own_H_0 (own_lv hx hl0)) (own_lv hx hl1)) (own_lv hx hl2)) (by omega)) (by simp; omega))⟩
theorem ef_8_4_1 (m : MethodId) (a : Addr) (ix : Int32) : entryFrame m #[(.ref a), (.int ix)] 10 = mkF m 0 #[.val (.ref a), .val (.int ix), .unset, .unset, .unset, .unset, .unset, .unset, .unset, .unset] [] := by first | (simp [entryFrame, mkF, argsToLocals, Value.category]; done) | rfl
def Q8_4_1 (Z : State) (a : Addr) (ix : Int32) (ph : Addr) (pl : Addr) (k1 : ClassId) (k2 : ClassId) (hp : List Value) (ls : List Value) (P : Nat → Int) (W : Nat → Int) (D : Nat → Int) (h0 : Heap) (n0 : Nat) (v9 : Option Value) (h9 : Heap) (L9 : List Loc) : Prop := ∃ (rv : UInt64), v9 = some (.double rv) ∧ Fr n0 L9 ∧ h9 = h0 ∧ (FP.Core.DInt (own_pm 3 0 0 (4 - 1) W D (P 1) 1) rv)
set_option maxRecDepth 65536 in
set_option maxHeartbeats 40000000 in
theorem rm8_4_1 (l : Launch) (Z : State) (a0 : Array Value) (hw : ∀ d ∈ tables_1, d.before a0 Z = true) (ws : List Jvm.Cond) (a : Addr) (ix : Int32) (ph : Addr) (pl : Addr) (k1 : ClassId) (k2 : ClassId) (hp : List Value) (ls : List Value) (P : Nat → Int) (W : Nat → Int) (D : Nat → Int) (h0 : Heap) (n0 : Nat) (Z0 : n0 ≤ h0.size) (Fld_0 : Fld Z h0 a "com/example/arbor_center/arborcenter/objective/UpperEnvelope" "halfPoints" "[D" (.ref ph)) (Fld_1 : Fld Z h0 a "com/example/arbor_center/arborcenter/objective/UpperEnvelope" "count" "I" (.int (4 : Int32))) (Fld_2 : Fld Z h0 a "com/example/arbor_center/arborcenter/objective/UpperEnvelope" "lines" "[D" (.ref pl)) (Arv_3 : Arv Z h0 ph k1 .double (4 : Int32) hp (.double (0 : UInt64))) (Arv_4 : Arv Z h0 pl k2 .double (14 : Int32) ls (.double (0 : UInt64))) (hix : (ix = (1 : Int32))) (hL : (own_Ls ls W D)) (hP : (own_Ps hp P 4)) :
    MetFree l (⟨"com/example/arbor_center/arborcenter/objective/UpperEnvelope", "at", "(I)D"⟩ : MethodName) (head1 (Jvm.Cond.code (⟨"com/example/arbor_center/arborcenter/objective/UpperEnvelope", "at", "(I)D"⟩ : MethodName) prog_12_method_4_code 10 (some .double) :: ws) ({ frames := 1, cells := 0, slots := 0, locals := 15 } : Room)) (fun A9 U9 => A9 = #[(.ref a), (.int ix)] ∧ Z.Warmed39 U9.vm ∧ U9.heap = h0) (fun _ _ _ _ _ => True) (fun _ U9 o9 V9 => ∃ v9 L9, o9 = .returned v9 ∧ (Q8_4_1 Z a ix ph pl k1 k2 hp ls P W D h0 n0) v9 V9.heap L9 ∧ FrameEnd U9 o9 V9 L9 ({ frames := 1, cells := 0, slots := 0, locals := 15 } : Room).cells ({ frames := 1, cells := 0, slots := 0, locals := 15 } : Room).slots) := by
  refine met_of (Q := (Q8_4_1 Z a ix ph pl k1 k2 hp ls P W D h0 n0)) pn_8 ?_
  intro p e s m below meth c T0 C X0 e0
  have N0 := Fr.nil n0
  refine Go.cast (ef_8_4_1 m a ix) ?_
  subst hix
  obtain ⟨px, gx, hx⟩ := hP.2 1 (by decide)
  obtain ⟨u0, v0, gu0, gv0, hl0⟩ := hL.2 0 (by decide)
  obtain ⟨u1, v1, gu1, gv1, hl1⟩ := hL.2 1 (by decide)
  obtain ⟨u3, v3, gu3, gv3, hl3⟩ := hL.2 3 (by decide)
  refine waloadN C X0 f8_0 rfl rfl ?_
  refine wget C X0 (host := "") (Or.inl (tw_10 hw)) Via.refl e0 Fld_0 f8_1 ?_
  intro T1 X1 e1
  refine wiloadN C X1 f8_4 rfl ?_
  refine wdaload C X1 e1 Arv_3 f8_5 ⟨by decide, by decide⟩ (i := 1) rfl (v := px) gx ?_
  refine wdstoreN C X1 f8_6 #[.val (.ref a), .val (.int (1 : Int32)), .val (.double px), .second, .unset, .unset, .unset, .unset, .unset, .unset] rfl ?_
  refine wdconst0 C X1 f8_7 ?_
  refine wdstore C X1 f8_8 #[.val (.ref a), .val (.int (1 : Int32)), .val (.double px), .second, .val (.double FP.dconst0), .second, .unset, .unset, .unset, .unset] rfl ?_
  refine wiconst C X1 f8_10 (0 : Int32) rfl ?_
  refine wistore C X1 f8_11 #[.val (.ref a), .val (.int (1 : Int32)), .val (.double px), .second, .val (.double FP.dconst0), .second, .val (.int (0 : Int32)), .unset, .unset, .unset] rfl ?_
  refine wiconst C X1 f8_13 (0 : Int32) rfl ?_
  refine wistore C X1 f8_14 #[.val (.ref a), .val (.int (1 : Int32)), .val (.double px), .second, .val (.double FP.dconst0), .second, .val (.int (0 : Int32)), .val (.int (0 : Int32)), .unset, .unset] rfl ?_
  refine waloadN C X1 f8_16 rfl rfl ?_
  refine wget C X1 (host := "") (Or.inl (tw_19 hw)) Via.refl e1 Fld_1 f8_17 ?_
  intro T2 X2 e2
  refine wiconst C X2 f8_20 (1 : Int32) rfl ?_
  refine wisub C X2 f8_21 ?_
  refine own_foldI (z := (3 : Int32)) (by decide) ?_
  refine wistore C X2 f8_22 #[.val (.ref a), .val (.int (1 : Int32)), .val (.double px), .second, .val (.double FP.dconst0), .second, .val (.int (0 : Int32)), .val (.int (0 : Int32)), .val (.int (3 : Int32)), .unset] rfl ?_
  refine wdload C X2 f8_24 rfl ?_
  refine waloadN C X2 f8_26 rfl rfl ?_
  refine wget C X2 (host := "") (Or.inl (tw_12 hw)) Via.refl e2 Fld_2 f8_27 ?_
  intro T3 X3 e3
  refine wiconst C X3 f8_30 (2 : Int32) rfl ?_
  refine wiload C X3 f8_31 rfl ?_
  refine wimul C X3 f8_33 ?_
  refine own_foldI (z := (0 : Int32)) (by decide) ?_
  refine wdaload C X3 e3 Arv_4 f8_34 ⟨by decide, by decide⟩ (i := 0) rfl (v := u0) gu0 ?_
  refine wdloadN C X3 f8_35 rfl ?_
  refine waloadN C X3 f8_36 rfl rfl ?_
  refine wget C X3 (host := "") (Or.inl (tw_12 hw)) Via.refl e3 Fld_2 f8_37 ?_
  intro T4 X4 e4
  refine wiconst C X4 f8_40 (2 : Int32) rfl ?_
  refine wiload C X4 f8_41 rfl ?_
  refine wimul C X4 f8_43 ?_
  refine own_foldI (z := (0 : Int32)) (by decide) ?_
  refine wiconst C X4 f8_44 (1 : Int32) rfl ?_
  refine wiadd C X4 f8_45 ?_
  refine own_foldI (z := (1 : Int32)) (by decide) ?_
  refine wdaload C X4 e4 Arv_4 f8_46 ⟨by decide, by decide⟩ (i := 1) rfl (v := v0) gv0 ?_
  refine wdadd C X4 f8_47 (v := (FP.dadd px v0)) rfl (own_H_nn (own_pd hx hl0)) ?_
  refine wdmul C X4 f8_48 (v := (FP.dmul u0 (FP.dadd px v0))) rfl (own_H_nn (own_lv hx hl0)) ?_
  refine wmaxD C X4 (tw_43 hw) (tw_44 hw) (tw_45 hw) (tw_46 hw) e4 f8_49 (own_H_nn own_H_0) (own_H_nn (own_lv hx hl0)) rfl (W := 0) (Nat.le_of_eq rfl) (by decide) (by decide) (by decide) (by decide) ?_
  intro T5 X5 e5
  refine wdstore C X5 f8_52 #[.val (.ref a), .val (.int (1 : Int32)), .val (.double px), .second, .val (.double (Jvm.Native.java_lang_Math.nans.pick64 true FP.dconst0 (FP.dmul u0 (FP.dadd px v0)))), .second, .val (.int (0 : Int32)), .val (.int (0 : Int32)), .val (.int (3 : Int32)), .unset] rfl ?_
  refine wiload C X5 f8_54 rfl ?_
  refine wiload C X5 f8_56 rfl ?_
  refine wicmp_ne C X5 f8_58 (fun q => absurd q (by decide : ¬ ((0 : Int32) = (3 : Int32)))) ?_
  intro _
  refine wiload C X5 f8_68 rfl ?_
  refine wiload C X5 f8_70 rfl ?_
  refine wiadd C X5 f8_72 ?_
  refine own_foldI (z := (3 : Int32)) (by decide) ?_
  refine wiconst C X5 f8_73 (1 : Int32) rfl ?_
  refine wiushr C X5 f8_74 ?_
  refine own_foldI (z := (1 : Int32)) (by decide) ?_
  refine wistore C X5 f8_75 #[.val (.ref a), .val (.int (1 : Int32)), .val (.double px), .second, .val (.double (Jvm.Native.java_lang_Math.nans.pick64 true FP.dconst0 (FP.dmul u0 (FP.dadd px v0)))), .second, .val (.int (0 : Int32)), .val (.int (0 : Int32)), .val (.int (3 : Int32)), .val (.int (1 : Int32))] rfl ?_
  refine wiloadN C X5 f8_77 rfl ?_
  refine wiload C X5 f8_78 rfl ?_
  refine wicmp_gt C X5 f8_80 (fun q => absurd q (by decide : ¬ ((1 : Int32) < (1 : Int32)))) ?_
  intro _
  refine wiload C X5 f8_83 rfl ?_
  refine wiconst C X5 f8_85 (1 : Int32) rfl ?_
  refine wiadd C X5 f8_86 ?_
  refine own_foldI (z := (1 : Int32)) (by decide) ?_
  refine wistore C X5 f8_87 #[.val (.ref a), .val (.int (1 : Int32)), .val (.double px), .second, .val (.double (Jvm.Native.java_lang_Math.nans.pick64 true FP.dconst0 (FP.dmul u0 (FP.dadd px v0)))), .second, .val (.int (1 : Int32)), .val (.int (0 : Int32)), .val (.int (3 : Int32)), .val (.int (1 : Int32))] rfl ?_
  refine wiload C X5 f8_89 rfl ?_
  refine wistore C X5 f8_91 #[.val (.ref a), .val (.int (1 : Int32)), .val (.double px), .second, .val (.double (Jvm.Native.java_lang_Math.nans.pick64 true FP.dconst0 (FP.dmul u0 (FP.dadd px v0)))), .second, .val (.int (1 : Int32)), .val (.int (0 : Int32)), .val (.int (1 : Int32)), .val (.int (1 : Int32))] rfl ?_
  refine wgoto C X5 f8_93 ?_
  refine wgoto C X5 f8_116 ?_
  refine wdload C X5 f8_24 rfl ?_
  refine waloadN C X5 f8_26 rfl rfl ?_
  refine wget C X5 (host := "") (Or.inl (tw_12 hw)) Via.refl e5 Fld_2 f8_27 ?_
  intro T6 X6 e6
  refine wiconst C X6 f8_30 (2 : Int32) rfl ?_
  refine wiload C X6 f8_31 rfl ?_
  refine wimul C X6 f8_33 ?_
  refine own_foldI (z := (2 : Int32)) (by decide) ?_
  refine wdaload C X6 e6 Arv_4 f8_34 ⟨by decide, by decide⟩ (i := 2) rfl (v := u1) gu1 ?_
  refine wdloadN C X6 f8_35 rfl ?_
  refine waloadN C X6 f8_36 rfl rfl ?_
  refine wget C X6 (host := "") (Or.inl (tw_12 hw)) Via.refl e6 Fld_2 f8_37 ?_
  intro T7 X7 e7
  refine wiconst C X7 f8_40 (2 : Int32) rfl ?_
  refine wiload C X7 f8_41 rfl ?_
  refine wimul C X7 f8_43 ?_
  refine own_foldI (z := (2 : Int32)) (by decide) ?_
  refine wiconst C X7 f8_44 (1 : Int32) rfl ?_
  refine wiadd C X7 f8_45 ?_
  refine own_foldI (z := (3 : Int32)) (by decide) ?_
  refine wdaload C X7 e7 Arv_4 f8_46 ⟨by decide, by decide⟩ (i := 3) rfl (v := v1) gv1 ?_
  refine wdadd C X7 f8_47 (v := (FP.dadd px v1)) rfl (own_H_nn (own_pd hx hl1)) ?_
  refine wdmul C X7 f8_48 (v := (FP.dmul u1 (FP.dadd px v1))) rfl (own_H_nn (own_lv hx hl1)) ?_
  refine wmaxD C X7 (tw_43 hw) (tw_44 hw) (tw_45 hw) (tw_46 hw) e7 f8_49 (own_H_nn (own_H_max own_H_0 (own_lv hx hl0))) (own_H_nn (own_lv hx hl1)) rfl (W := 0) (Nat.le_of_eq rfl) (by decide) (by decide) (by decide) (by decide) ?_
  intro T8 X8 e8
  refine wdstore C X8 f8_52 #[.val (.ref a), .val (.int (1 : Int32)), .val (.double px), .second, .val (.double (Jvm.Native.java_lang_Math.nans.pick64 true (Jvm.Native.java_lang_Math.nans.pick64 true FP.dconst0 (FP.dmul u0 (FP.dadd px v0))) (FP.dmul u1 (FP.dadd px v1)))), .second, .val (.int (1 : Int32)), .val (.int (0 : Int32)), .val (.int (1 : Int32)), .val (.int (1 : Int32))] rfl ?_
  refine wiload C X8 f8_54 rfl ?_
  refine wiload C X8 f8_56 rfl ?_
  refine wicmp_ne C X8 f8_58 (fun q => absurd q (by decide : ¬ ((0 : Int32) = (1 : Int32)))) ?_
  intro _
  refine wiload C X8 f8_68 rfl ?_
  refine wiload C X8 f8_70 rfl ?_
  refine wiadd C X8 f8_72 ?_
  refine own_foldI (z := (1 : Int32)) (by decide) ?_
  refine wiconst C X8 f8_73 (1 : Int32) rfl ?_
  refine wiushr C X8 f8_74 ?_
  refine own_foldI (z := (0 : Int32)) (by decide) ?_
  refine wistore C X8 f8_75 #[.val (.ref a), .val (.int (1 : Int32)), .val (.double px), .second, .val (.double (Jvm.Native.java_lang_Math.nans.pick64 true (Jvm.Native.java_lang_Math.nans.pick64 true FP.dconst0 (FP.dmul u0 (FP.dadd px v0))) (FP.dmul u1 (FP.dadd px v1)))), .second, .val (.int (1 : Int32)), .val (.int (0 : Int32)), .val (.int (1 : Int32)), .val (.int (0 : Int32))] rfl ?_
  refine wiloadN C X8 f8_77 rfl ?_
  refine wiload C X8 f8_78 rfl ?_
  refine wicmp_gt C X8 f8_80 ?_ (fun q => absurd (by decide : ((0 : Int32) < (1 : Int32))) q)
  intro _
  refine wiload C X8 f8_96 rfl ?_
  refine wiconst C X8 f8_98 (2 : Int32) rfl ?_
  refine wiload C X8 f8_99 rfl ?_
  refine wiload C X8 f8_101 rfl ?_
  refine wisub C X8 f8_103 ?_
  refine own_foldI (z := (0 : Int32)) (by decide) ?_
  refine wiconst C X8 f8_104 (1 : Int32) rfl ?_
  refine wiadd C X8 f8_105 ?_
  refine own_foldI (z := (1 : Int32)) (by decide) ?_
  refine wimul C X8 f8_106 ?_
  refine own_foldI (z := (2 : Int32)) (by decide) ?_
  refine wiadd C X8 f8_107 ?_
  refine own_foldI (z := (3 : Int32)) (by decide) ?_
  refine wistore C X8 f8_108 #[.val (.ref a), .val (.int (1 : Int32)), .val (.double px), .second, .val (.double (Jvm.Native.java_lang_Math.nans.pick64 true (Jvm.Native.java_lang_Math.nans.pick64 true FP.dconst0 (FP.dmul u0 (FP.dadd px v0))) (FP.dmul u1 (FP.dadd px v1)))), .second, .val (.int (3 : Int32)), .val (.int (0 : Int32)), .val (.int (1 : Int32)), .val (.int (0 : Int32))] rfl ?_
  refine wiload C X8 f8_110 rfl ?_
  refine wiconst C X8 f8_112 (1 : Int32) rfl ?_
  refine wiadd C X8 f8_113 ?_
  refine own_foldI (z := (1 : Int32)) (by decide) ?_
  refine wistore C X8 f8_114 #[.val (.ref a), .val (.int (1 : Int32)), .val (.double px), .second, .val (.double (Jvm.Native.java_lang_Math.nans.pick64 true (Jvm.Native.java_lang_Math.nans.pick64 true FP.dconst0 (FP.dmul u0 (FP.dadd px v0))) (FP.dmul u1 (FP.dadd px v1)))), .second, .val (.int (3 : Int32)), .val (.int (1 : Int32)), .val (.int (1 : Int32)), .val (.int (0 : Int32))] rfl ?_
  refine wgoto C X8 f8_116 ?_
  refine wdload C X8 f8_24 rfl ?_
  refine waloadN C X8 f8_26 rfl rfl ?_
  refine wget C X8 (host := "") (Or.inl (tw_12 hw)) Via.refl e8 Fld_2 f8_27 ?_
  intro T9 X9 e9
  refine wiconst C X9 f8_30 (2 : Int32) rfl ?_
  refine wiload C X9 f8_31 rfl ?_
  refine wimul C X9 f8_33 ?_
  refine own_foldI (z := (6 : Int32)) (by decide) ?_
  refine wdaload C X9 e9 Arv_4 f8_34 ⟨by decide, by decide⟩ (i := 6) rfl (v := u3) gu3 ?_
  refine wdloadN C X9 f8_35 rfl ?_
  refine waloadN C X9 f8_36 rfl rfl ?_
  refine wget C X9 (host := "") (Or.inl (tw_12 hw)) Via.refl e9 Fld_2 f8_37 ?_
  intro T10 X10 e10
  refine wiconst C X10 f8_40 (2 : Int32) rfl ?_
  refine wiload C X10 f8_41 rfl ?_
  refine wimul C X10 f8_43 ?_
  refine own_foldI (z := (6 : Int32)) (by decide) ?_
  refine wiconst C X10 f8_44 (1 : Int32) rfl ?_
  refine wiadd C X10 f8_45 ?_
  refine own_foldI (z := (7 : Int32)) (by decide) ?_
  refine wdaload C X10 e10 Arv_4 f8_46 ⟨by decide, by decide⟩ (i := 7) rfl (v := v3) gv3 ?_
  refine wdadd C X10 f8_47 (v := (FP.dadd px v3)) rfl (own_H_nn (own_pd hx hl3)) ?_
  refine wdmul C X10 f8_48 (v := (FP.dmul u3 (FP.dadd px v3))) rfl (own_H_nn (own_lv hx hl3)) ?_
  refine wmaxD C X10 (tw_43 hw) (tw_44 hw) (tw_45 hw) (tw_46 hw) e10 f8_49 (own_H_nn (own_H_max (own_H_max own_H_0 (own_lv hx hl0)) (own_lv hx hl1))) (own_H_nn (own_lv hx hl3)) rfl (W := 0) (Nat.le_of_eq rfl) (by decide) (by decide) (by decide) (by decide) ?_
  intro T11 X11 e11
  refine wdstore C X11 f8_52 #[.val (.ref a), .val (.int (1 : Int32)), .val (.double px), .second, .val (.double (Jvm.Native.java_lang_Math.nans.pick64 true (Jvm.Native.java_lang_Math.nans.pick64 true (Jvm.Native.java_lang_Math.nans.pick64 true FP.dconst0 (FP.dmul u0 (FP.dadd px v0))) (FP.dmul u1 (FP.dadd px v1))) (FP.dmul u3 (FP.dadd px v3)))), .second, .val (.int (3 : Int32)), .val (.int (1 : Int32)), .val (.int (1 : Int32)), .val (.int (0 : Int32))] rfl ?_
  refine wiload C X11 f8_54 rfl ?_
  refine wiload C X11 f8_56 rfl ?_
  refine wicmp_ne C X11 f8_58 ?_ (fun q => absurd (by decide : ((1 : Int32) = (1 : Int32))) q)
  intro _
  refine wldc2D C X11 (tw_21 hw) f8_61 ?_
  refine wdload C X11 f8_64 rfl ?_
  refine wdmul C X11 f8_66 (v := (FP.dmul (4611686018427387904 : UInt64) (Jvm.Native.java_lang_Math.nans.pick64 true (Jvm.Native.java_lang_Math.nans.pick64 true (Jvm.Native.java_lang_Math.nans.pick64 true FP.dconst0 (FP.dmul u0 (FP.dadd px v0))) (FP.dmul u1 (FP.dadd px v1))) (FP.dmul u3 (FP.dadd px v3))))) rfl (own_nn (own_H_dbl (own_H_max (own_H_max (own_H_max own_H_0 (own_lv hx hl0)) (own_lv hx hl1)) (own_lv hx hl3)) (by have z0 := own_lvb hx hl0; have z1 := own_lvb hx hl1; have z3 := own_lvb hx hl3; omega))) ?_
  refine wdret C X11 f8_67 rfl (by decide) (by decide) ?_
  rw [e11]
  exact ⟨(FP.dmul (4611686018427387904 : UInt64) (Jvm.Native.java_lang_Math.nans.pick64 true (Jvm.Native.java_lang_Math.nans.pick64 true (Jvm.Native.java_lang_Math.nans.pick64 true FP.dconst0 (FP.dmul u0 (FP.dadd px v0))) (FP.dmul u1 (FP.dadd px v1))) (FP.dmul u3 (FP.dadd px v3)))), rfl, N0, rfl, (by have z0 := own_lvb hx hl0; have z1 := own_lvb hx hl1; have z3 := own_lvb hx hl3; simp only [own_pm]; exact own_di (own_H_dbl (own_H_max (own_H_max (own_H_max own_H_0 (own_lv hx hl0)) (own_lv hx hl1)) (own_lv hx hl3)) (by omega)) (by simp; omega))⟩
theorem ef_8_4_2 (m : MethodId) (a : Addr) (ix : Int32) : entryFrame m #[(.ref a), (.int ix)] 10 = mkF m 0 #[.val (.ref a), .val (.int ix), .unset, .unset, .unset, .unset, .unset, .unset, .unset, .unset] [] := by first | (simp [entryFrame, mkF, argsToLocals, Value.category]; done) | rfl
def Q8_4_2 (Z : State) (a : Addr) (ix : Int32) (ph : Addr) (pl : Addr) (k1 : ClassId) (k2 : ClassId) (hp : List Value) (ls : List Value) (P : Nat → Int) (W : Nat → Int) (D : Nat → Int) (h0 : Heap) (n0 : Nat) (v9 : Option Value) (h9 : Heap) (L9 : List Loc) : Prop := ∃ (rv : UInt64), v9 = some (.double rv) ∧ Fr n0 L9 ∧ h9 = h0 ∧ (FP.Core.DInt (own_pm 3 0 0 (4 - 1) W D (P 2) 2) rv)
set_option maxRecDepth 65536 in
set_option maxHeartbeats 40000000 in
theorem rm8_4_2 (l : Launch) (Z : State) (a0 : Array Value) (hw : ∀ d ∈ tables_1, d.before a0 Z = true) (ws : List Jvm.Cond) (a : Addr) (ix : Int32) (ph : Addr) (pl : Addr) (k1 : ClassId) (k2 : ClassId) (hp : List Value) (ls : List Value) (P : Nat → Int) (W : Nat → Int) (D : Nat → Int) (h0 : Heap) (n0 : Nat) (Z0 : n0 ≤ h0.size) (Fld_0 : Fld Z h0 a "com/example/arbor_center/arborcenter/objective/UpperEnvelope" "halfPoints" "[D" (.ref ph)) (Fld_1 : Fld Z h0 a "com/example/arbor_center/arborcenter/objective/UpperEnvelope" "count" "I" (.int (4 : Int32))) (Fld_2 : Fld Z h0 a "com/example/arbor_center/arborcenter/objective/UpperEnvelope" "lines" "[D" (.ref pl)) (Arv_3 : Arv Z h0 ph k1 .double (4 : Int32) hp (.double (0 : UInt64))) (Arv_4 : Arv Z h0 pl k2 .double (14 : Int32) ls (.double (0 : UInt64))) (hix : (ix = (2 : Int32))) (hL : (own_Ls ls W D)) (hP : (own_Ps hp P 4)) :
    MetFree l (⟨"com/example/arbor_center/arborcenter/objective/UpperEnvelope", "at", "(I)D"⟩ : MethodName) (head1 (Jvm.Cond.code (⟨"com/example/arbor_center/arborcenter/objective/UpperEnvelope", "at", "(I)D"⟩ : MethodName) prog_12_method_4_code 10 (some .double) :: ws) ({ frames := 1, cells := 0, slots := 0, locals := 15 } : Room)) (fun A9 U9 => A9 = #[(.ref a), (.int ix)] ∧ Z.Warmed39 U9.vm ∧ U9.heap = h0) (fun _ _ _ _ _ => True) (fun _ U9 o9 V9 => ∃ v9 L9, o9 = .returned v9 ∧ (Q8_4_2 Z a ix ph pl k1 k2 hp ls P W D h0 n0) v9 V9.heap L9 ∧ FrameEnd U9 o9 V9 L9 ({ frames := 1, cells := 0, slots := 0, locals := 15 } : Room).cells ({ frames := 1, cells := 0, slots := 0, locals := 15 } : Room).slots) := by
  refine met_of (Q := (Q8_4_2 Z a ix ph pl k1 k2 hp ls P W D h0 n0)) pn_8 ?_
  intro p e s m below meth c T0 C X0 e0
  have N0 := Fr.nil n0
  refine Go.cast (ef_8_4_2 m a ix) ?_
  subst hix
  obtain ⟨px, gx, hx⟩ := hP.2 2 (by decide)
  obtain ⟨u0, v0, gu0, gv0, hl0⟩ := hL.2 0 (by decide)
  obtain ⟨u4, v4, gu4, gv4, hl4⟩ := hL.2 4 (by decide)
  obtain ⟨u5, v5, gu5, gv5, hl5⟩ := hL.2 5 (by decide)
  refine waloadN C X0 f8_0 rfl rfl ?_
  refine wget C X0 (host := "") (Or.inl (tw_10 hw)) Via.refl e0 Fld_0 f8_1 ?_
  intro T1 X1 e1
  refine wiloadN C X1 f8_4 rfl ?_
  refine wdaload C X1 e1 Arv_3 f8_5 ⟨by decide, by decide⟩ (i := 2) rfl (v := px) gx ?_
  refine wdstoreN C X1 f8_6 #[.val (.ref a), .val (.int (2 : Int32)), .val (.double px), .second, .unset, .unset, .unset, .unset, .unset, .unset] rfl ?_
  refine wdconst0 C X1 f8_7 ?_
  refine wdstore C X1 f8_8 #[.val (.ref a), .val (.int (2 : Int32)), .val (.double px), .second, .val (.double FP.dconst0), .second, .unset, .unset, .unset, .unset] rfl ?_
  refine wiconst C X1 f8_10 (0 : Int32) rfl ?_
  refine wistore C X1 f8_11 #[.val (.ref a), .val (.int (2 : Int32)), .val (.double px), .second, .val (.double FP.dconst0), .second, .val (.int (0 : Int32)), .unset, .unset, .unset] rfl ?_
  refine wiconst C X1 f8_13 (0 : Int32) rfl ?_
  refine wistore C X1 f8_14 #[.val (.ref a), .val (.int (2 : Int32)), .val (.double px), .second, .val (.double FP.dconst0), .second, .val (.int (0 : Int32)), .val (.int (0 : Int32)), .unset, .unset] rfl ?_
  refine waloadN C X1 f8_16 rfl rfl ?_
  refine wget C X1 (host := "") (Or.inl (tw_19 hw)) Via.refl e1 Fld_1 f8_17 ?_
  intro T2 X2 e2
  refine wiconst C X2 f8_20 (1 : Int32) rfl ?_
  refine wisub C X2 f8_21 ?_
  refine own_foldI (z := (3 : Int32)) (by decide) ?_
  refine wistore C X2 f8_22 #[.val (.ref a), .val (.int (2 : Int32)), .val (.double px), .second, .val (.double FP.dconst0), .second, .val (.int (0 : Int32)), .val (.int (0 : Int32)), .val (.int (3 : Int32)), .unset] rfl ?_
  refine wdload C X2 f8_24 rfl ?_
  refine waloadN C X2 f8_26 rfl rfl ?_
  refine wget C X2 (host := "") (Or.inl (tw_12 hw)) Via.refl e2 Fld_2 f8_27 ?_
  intro T3 X3 e3
  refine wiconst C X3 f8_30 (2 : Int32) rfl ?_
  refine wiload C X3 f8_31 rfl ?_
  refine wimul C X3 f8_33 ?_
  refine own_foldI (z := (0 : Int32)) (by decide) ?_
  refine wdaload C X3 e3 Arv_4 f8_34 ⟨by decide, by decide⟩ (i := 0) rfl (v := u0) gu0 ?_
  refine wdloadN C X3 f8_35 rfl ?_
  refine waloadN C X3 f8_36 rfl rfl ?_
  refine wget C X3 (host := "") (Or.inl (tw_12 hw)) Via.refl e3 Fld_2 f8_37 ?_
  intro T4 X4 e4
  refine wiconst C X4 f8_40 (2 : Int32) rfl ?_
  refine wiload C X4 f8_41 rfl ?_
  refine wimul C X4 f8_43 ?_
  refine own_foldI (z := (0 : Int32)) (by decide) ?_
  refine wiconst C X4 f8_44 (1 : Int32) rfl ?_
  refine wiadd C X4 f8_45 ?_
  refine own_foldI (z := (1 : Int32)) (by decide) ?_
  refine wdaload C X4 e4 Arv_4 f8_46 ⟨by decide, by decide⟩ (i := 1) rfl (v := v0) gv0 ?_
  refine wdadd C X4 f8_47 (v := (FP.dadd px v0)) rfl (own_H_nn (own_pd hx hl0)) ?_
  refine wdmul C X4 f8_48 (v := (FP.dmul u0 (FP.dadd px v0))) rfl (own_H_nn (own_lv hx hl0)) ?_
  refine wmaxD C X4 (tw_43 hw) (tw_44 hw) (tw_45 hw) (tw_46 hw) e4 f8_49 (own_H_nn own_H_0) (own_H_nn (own_lv hx hl0)) rfl (W := 0) (Nat.le_of_eq rfl) (by decide) (by decide) (by decide) (by decide) ?_
  intro T5 X5 e5
  refine wdstore C X5 f8_52 #[.val (.ref a), .val (.int (2 : Int32)), .val (.double px), .second, .val (.double (Jvm.Native.java_lang_Math.nans.pick64 true FP.dconst0 (FP.dmul u0 (FP.dadd px v0)))), .second, .val (.int (0 : Int32)), .val (.int (0 : Int32)), .val (.int (3 : Int32)), .unset] rfl ?_
  refine wiload C X5 f8_54 rfl ?_
  refine wiload C X5 f8_56 rfl ?_
  refine wicmp_ne C X5 f8_58 (fun q => absurd q (by decide : ¬ ((0 : Int32) = (3 : Int32)))) ?_
  intro _
  refine wiload C X5 f8_68 rfl ?_
  refine wiload C X5 f8_70 rfl ?_
  refine wiadd C X5 f8_72 ?_
  refine own_foldI (z := (3 : Int32)) (by decide) ?_
  refine wiconst C X5 f8_73 (1 : Int32) rfl ?_
  refine wiushr C X5 f8_74 ?_
  refine own_foldI (z := (1 : Int32)) (by decide) ?_
  refine wistore C X5 f8_75 #[.val (.ref a), .val (.int (2 : Int32)), .val (.double px), .second, .val (.double (Jvm.Native.java_lang_Math.nans.pick64 true FP.dconst0 (FP.dmul u0 (FP.dadd px v0)))), .second, .val (.int (0 : Int32)), .val (.int (0 : Int32)), .val (.int (3 : Int32)), .val (.int (1 : Int32))] rfl ?_
  refine wiloadN C X5 f8_77 rfl ?_
  refine wiload C X5 f8_78 rfl ?_
  refine wicmp_gt C X5 f8_80 ?_ (fun q => absurd (by decide : ((1 : Int32) < (2 : Int32))) q)
  intro _
  refine wiload C X5 f8_96 rfl ?_
  refine wiconst C X5 f8_98 (2 : Int32) rfl ?_
  refine wiload C X5 f8_99 rfl ?_
  refine wiload C X5 f8_101 rfl ?_
  refine wisub C X5 f8_103 ?_
  refine own_foldI (z := (1 : Int32)) (by decide) ?_
  refine wiconst C X5 f8_104 (1 : Int32) rfl ?_
  refine wiadd C X5 f8_105 ?_
  refine own_foldI (z := (2 : Int32)) (by decide) ?_
  refine wimul C X5 f8_106 ?_
  refine own_foldI (z := (4 : Int32)) (by decide) ?_
  refine wiadd C X5 f8_107 ?_
  refine own_foldI (z := (4 : Int32)) (by decide) ?_
  refine wistore C X5 f8_108 #[.val (.ref a), .val (.int (2 : Int32)), .val (.double px), .second, .val (.double (Jvm.Native.java_lang_Math.nans.pick64 true FP.dconst0 (FP.dmul u0 (FP.dadd px v0)))), .second, .val (.int (4 : Int32)), .val (.int (0 : Int32)), .val (.int (3 : Int32)), .val (.int (1 : Int32))] rfl ?_
  refine wiload C X5 f8_110 rfl ?_
  refine wiconst C X5 f8_112 (1 : Int32) rfl ?_
  refine wiadd C X5 f8_113 ?_
  refine own_foldI (z := (2 : Int32)) (by decide) ?_
  refine wistore C X5 f8_114 #[.val (.ref a), .val (.int (2 : Int32)), .val (.double px), .second, .val (.double (Jvm.Native.java_lang_Math.nans.pick64 true FP.dconst0 (FP.dmul u0 (FP.dadd px v0)))), .second, .val (.int (4 : Int32)), .val (.int (2 : Int32)), .val (.int (3 : Int32)), .val (.int (1 : Int32))] rfl ?_
  refine wgoto C X5 f8_116 ?_
  refine wdload C X5 f8_24 rfl ?_
  refine waloadN C X5 f8_26 rfl rfl ?_
  refine wget C X5 (host := "") (Or.inl (tw_12 hw)) Via.refl e5 Fld_2 f8_27 ?_
  intro T6 X6 e6
  refine wiconst C X6 f8_30 (2 : Int32) rfl ?_
  refine wiload C X6 f8_31 rfl ?_
  refine wimul C X6 f8_33 ?_
  refine own_foldI (z := (8 : Int32)) (by decide) ?_
  refine wdaload C X6 e6 Arv_4 f8_34 ⟨by decide, by decide⟩ (i := 8) rfl (v := u4) gu4 ?_
  refine wdloadN C X6 f8_35 rfl ?_
  refine waloadN C X6 f8_36 rfl rfl ?_
  refine wget C X6 (host := "") (Or.inl (tw_12 hw)) Via.refl e6 Fld_2 f8_37 ?_
  intro T7 X7 e7
  refine wiconst C X7 f8_40 (2 : Int32) rfl ?_
  refine wiload C X7 f8_41 rfl ?_
  refine wimul C X7 f8_43 ?_
  refine own_foldI (z := (8 : Int32)) (by decide) ?_
  refine wiconst C X7 f8_44 (1 : Int32) rfl ?_
  refine wiadd C X7 f8_45 ?_
  refine own_foldI (z := (9 : Int32)) (by decide) ?_
  refine wdaload C X7 e7 Arv_4 f8_46 ⟨by decide, by decide⟩ (i := 9) rfl (v := v4) gv4 ?_
  refine wdadd C X7 f8_47 (v := (FP.dadd px v4)) rfl (own_H_nn (own_pd hx hl4)) ?_
  refine wdmul C X7 f8_48 (v := (FP.dmul u4 (FP.dadd px v4))) rfl (own_H_nn (own_lv hx hl4)) ?_
  refine wmaxD C X7 (tw_43 hw) (tw_44 hw) (tw_45 hw) (tw_46 hw) e7 f8_49 (own_H_nn (own_H_max own_H_0 (own_lv hx hl0))) (own_H_nn (own_lv hx hl4)) rfl (W := 0) (Nat.le_of_eq rfl) (by decide) (by decide) (by decide) (by decide) ?_
  intro T8 X8 e8
  refine wdstore C X8 f8_52 #[.val (.ref a), .val (.int (2 : Int32)), .val (.double px), .second, .val (.double (Jvm.Native.java_lang_Math.nans.pick64 true (Jvm.Native.java_lang_Math.nans.pick64 true FP.dconst0 (FP.dmul u0 (FP.dadd px v0))) (FP.dmul u4 (FP.dadd px v4)))), .second, .val (.int (4 : Int32)), .val (.int (2 : Int32)), .val (.int (3 : Int32)), .val (.int (1 : Int32))] rfl ?_
  refine wiload C X8 f8_54 rfl ?_
  refine wiload C X8 f8_56 rfl ?_
  refine wicmp_ne C X8 f8_58 (fun q => absurd q (by decide : ¬ ((2 : Int32) = (3 : Int32)))) ?_
  intro _
  refine wiload C X8 f8_68 rfl ?_
  refine wiload C X8 f8_70 rfl ?_
  refine wiadd C X8 f8_72 ?_
  refine own_foldI (z := (5 : Int32)) (by decide) ?_
  refine wiconst C X8 f8_73 (1 : Int32) rfl ?_
  refine wiushr C X8 f8_74 ?_
  refine own_foldI (z := (2 : Int32)) (by decide) ?_
  refine wistore C X8 f8_75 #[.val (.ref a), .val (.int (2 : Int32)), .val (.double px), .second, .val (.double (Jvm.Native.java_lang_Math.nans.pick64 true (Jvm.Native.java_lang_Math.nans.pick64 true FP.dconst0 (FP.dmul u0 (FP.dadd px v0))) (FP.dmul u4 (FP.dadd px v4)))), .second, .val (.int (4 : Int32)), .val (.int (2 : Int32)), .val (.int (3 : Int32)), .val (.int (2 : Int32))] rfl ?_
  refine wiloadN C X8 f8_77 rfl ?_
  refine wiload C X8 f8_78 rfl ?_
  refine wicmp_gt C X8 f8_80 (fun q => absurd q (by decide : ¬ ((2 : Int32) < (2 : Int32)))) ?_
  intro _
  refine wiload C X8 f8_83 rfl ?_
  refine wiconst C X8 f8_85 (1 : Int32) rfl ?_
  refine wiadd C X8 f8_86 ?_
  refine own_foldI (z := (5 : Int32)) (by decide) ?_
  refine wistore C X8 f8_87 #[.val (.ref a), .val (.int (2 : Int32)), .val (.double px), .second, .val (.double (Jvm.Native.java_lang_Math.nans.pick64 true (Jvm.Native.java_lang_Math.nans.pick64 true FP.dconst0 (FP.dmul u0 (FP.dadd px v0))) (FP.dmul u4 (FP.dadd px v4)))), .second, .val (.int (5 : Int32)), .val (.int (2 : Int32)), .val (.int (3 : Int32)), .val (.int (2 : Int32))] rfl ?_
  refine wiload C X8 f8_89 rfl ?_
  refine wistore C X8 f8_91 #[.val (.ref a), .val (.int (2 : Int32)), .val (.double px), .second, .val (.double (Jvm.Native.java_lang_Math.nans.pick64 true (Jvm.Native.java_lang_Math.nans.pick64 true FP.dconst0 (FP.dmul u0 (FP.dadd px v0))) (FP.dmul u4 (FP.dadd px v4)))), .second, .val (.int (5 : Int32)), .val (.int (2 : Int32)), .val (.int (2 : Int32)), .val (.int (2 : Int32))] rfl ?_
  refine wgoto C X8 f8_93 ?_
  refine wgoto C X8 f8_116 ?_
  refine wdload C X8 f8_24 rfl ?_
  refine waloadN C X8 f8_26 rfl rfl ?_
  refine wget C X8 (host := "") (Or.inl (tw_12 hw)) Via.refl e8 Fld_2 f8_27 ?_
  intro T9 X9 e9
  refine wiconst C X9 f8_30 (2 : Int32) rfl ?_
  refine wiload C X9 f8_31 rfl ?_
  refine wimul C X9 f8_33 ?_
  refine own_foldI (z := (10 : Int32)) (by decide) ?_
  refine wdaload C X9 e9 Arv_4 f8_34 ⟨by decide, by decide⟩ (i := 10) rfl (v := u5) gu5 ?_
  refine wdloadN C X9 f8_35 rfl ?_
  refine waloadN C X9 f8_36 rfl rfl ?_
  refine wget C X9 (host := "") (Or.inl (tw_12 hw)) Via.refl e9 Fld_2 f8_37 ?_
  intro T10 X10 e10
  refine wiconst C X10 f8_40 (2 : Int32) rfl ?_
  refine wiload C X10 f8_41 rfl ?_
  refine wimul C X10 f8_43 ?_
  refine own_foldI (z := (10 : Int32)) (by decide) ?_
  refine wiconst C X10 f8_44 (1 : Int32) rfl ?_
  refine wiadd C X10 f8_45 ?_
  refine own_foldI (z := (11 : Int32)) (by decide) ?_
  refine wdaload C X10 e10 Arv_4 f8_46 ⟨by decide, by decide⟩ (i := 11) rfl (v := v5) gv5 ?_
  refine wdadd C X10 f8_47 (v := (FP.dadd px v5)) rfl (own_H_nn (own_pd hx hl5)) ?_
  refine wdmul C X10 f8_48 (v := (FP.dmul u5 (FP.dadd px v5))) rfl (own_H_nn (own_lv hx hl5)) ?_
  refine wmaxD C X10 (tw_43 hw) (tw_44 hw) (tw_45 hw) (tw_46 hw) e10 f8_49 (own_H_nn (own_H_max (own_H_max own_H_0 (own_lv hx hl0)) (own_lv hx hl4))) (own_H_nn (own_lv hx hl5)) rfl (W := 0) (Nat.le_of_eq rfl) (by decide) (by decide) (by decide) (by decide) ?_
  intro T11 X11 e11
  refine wdstore C X11 f8_52 #[.val (.ref a), .val (.int (2 : Int32)), .val (.double px), .second, .val (.double (Jvm.Native.java_lang_Math.nans.pick64 true (Jvm.Native.java_lang_Math.nans.pick64 true (Jvm.Native.java_lang_Math.nans.pick64 true FP.dconst0 (FP.dmul u0 (FP.dadd px v0))) (FP.dmul u4 (FP.dadd px v4))) (FP.dmul u5 (FP.dadd px v5)))), .second, .val (.int (5 : Int32)), .val (.int (2 : Int32)), .val (.int (2 : Int32)), .val (.int (2 : Int32))] rfl ?_
  refine wiload C X11 f8_54 rfl ?_
  refine wiload C X11 f8_56 rfl ?_
  refine wicmp_ne C X11 f8_58 ?_ (fun q => absurd (by decide : ((2 : Int32) = (2 : Int32))) q)
  intro _
  refine wldc2D C X11 (tw_21 hw) f8_61 ?_
  refine wdload C X11 f8_64 rfl ?_
  refine wdmul C X11 f8_66 (v := (FP.dmul (4611686018427387904 : UInt64) (Jvm.Native.java_lang_Math.nans.pick64 true (Jvm.Native.java_lang_Math.nans.pick64 true (Jvm.Native.java_lang_Math.nans.pick64 true FP.dconst0 (FP.dmul u0 (FP.dadd px v0))) (FP.dmul u4 (FP.dadd px v4))) (FP.dmul u5 (FP.dadd px v5))))) rfl (own_nn (own_H_dbl (own_H_max (own_H_max (own_H_max own_H_0 (own_lv hx hl0)) (own_lv hx hl4)) (own_lv hx hl5)) (by have z0 := own_lvb hx hl0; have z4 := own_lvb hx hl4; have z5 := own_lvb hx hl5; omega))) ?_
  refine wdret C X11 f8_67 rfl (by decide) (by decide) ?_
  rw [e11]
  exact ⟨(FP.dmul (4611686018427387904 : UInt64) (Jvm.Native.java_lang_Math.nans.pick64 true (Jvm.Native.java_lang_Math.nans.pick64 true (Jvm.Native.java_lang_Math.nans.pick64 true FP.dconst0 (FP.dmul u0 (FP.dadd px v0))) (FP.dmul u4 (FP.dadd px v4))) (FP.dmul u5 (FP.dadd px v5)))), rfl, N0, rfl, (by have z0 := own_lvb hx hl0; have z4 := own_lvb hx hl4; have z5 := own_lvb hx hl5; simp only [own_pm]; exact own_di (own_H_dbl (own_H_max (own_H_max (own_H_max own_H_0 (own_lv hx hl0)) (own_lv hx hl4)) (own_lv hx hl5)) (by omega)) (by simp; omega))⟩
theorem ef_8_4_3 (m : MethodId) (a : Addr) (ix : Int32) : entryFrame m #[(.ref a), (.int ix)] 10 = mkF m 0 #[.val (.ref a), .val (.int ix), .unset, .unset, .unset, .unset, .unset, .unset, .unset, .unset] [] := by first | (simp [entryFrame, mkF, argsToLocals, Value.category]; done) | rfl
def Q8_4_3 (Z : State) (a : Addr) (ix : Int32) (ph : Addr) (pl : Addr) (k1 : ClassId) (k2 : ClassId) (hp : List Value) (ls : List Value) (P : Nat → Int) (W : Nat → Int) (D : Nat → Int) (h0 : Heap) (n0 : Nat) (v9 : Option Value) (h9 : Heap) (L9 : List Loc) : Prop := ∃ (rv : UInt64), v9 = some (.double rv) ∧ Fr n0 L9 ∧ h9 = h0 ∧ (FP.Core.DInt (own_pm 3 0 0 (4 - 1) W D (P 3) 3) rv)
set_option maxRecDepth 65536 in
set_option maxHeartbeats 40000000 in
theorem rm8_4_3 (l : Launch) (Z : State) (a0 : Array Value) (hw : ∀ d ∈ tables_1, d.before a0 Z = true) (ws : List Jvm.Cond) (a : Addr) (ix : Int32) (ph : Addr) (pl : Addr) (k1 : ClassId) (k2 : ClassId) (hp : List Value) (ls : List Value) (P : Nat → Int) (W : Nat → Int) (D : Nat → Int) (h0 : Heap) (n0 : Nat) (Z0 : n0 ≤ h0.size) (Fld_0 : Fld Z h0 a "com/example/arbor_center/arborcenter/objective/UpperEnvelope" "halfPoints" "[D" (.ref ph)) (Fld_1 : Fld Z h0 a "com/example/arbor_center/arborcenter/objective/UpperEnvelope" "count" "I" (.int (4 : Int32))) (Fld_2 : Fld Z h0 a "com/example/arbor_center/arborcenter/objective/UpperEnvelope" "lines" "[D" (.ref pl)) (Arv_3 : Arv Z h0 ph k1 .double (4 : Int32) hp (.double (0 : UInt64))) (Arv_4 : Arv Z h0 pl k2 .double (14 : Int32) ls (.double (0 : UInt64))) (hix : (ix = (3 : Int32))) (hL : (own_Ls ls W D)) (hP : (own_Ps hp P 4)) :
    MetFree l (⟨"com/example/arbor_center/arborcenter/objective/UpperEnvelope", "at", "(I)D"⟩ : MethodName) (head1 (Jvm.Cond.code (⟨"com/example/arbor_center/arborcenter/objective/UpperEnvelope", "at", "(I)D"⟩ : MethodName) prog_12_method_4_code 10 (some .double) :: ws) ({ frames := 1, cells := 0, slots := 0, locals := 15 } : Room)) (fun A9 U9 => A9 = #[(.ref a), (.int ix)] ∧ Z.Warmed39 U9.vm ∧ U9.heap = h0) (fun _ _ _ _ _ => True) (fun _ U9 o9 V9 => ∃ v9 L9, o9 = .returned v9 ∧ (Q8_4_3 Z a ix ph pl k1 k2 hp ls P W D h0 n0) v9 V9.heap L9 ∧ FrameEnd U9 o9 V9 L9 ({ frames := 1, cells := 0, slots := 0, locals := 15 } : Room).cells ({ frames := 1, cells := 0, slots := 0, locals := 15 } : Room).slots) := by
  refine met_of (Q := (Q8_4_3 Z a ix ph pl k1 k2 hp ls P W D h0 n0)) pn_8 ?_
  intro p e s m below meth c T0 C X0 e0
  have N0 := Fr.nil n0
  refine Go.cast (ef_8_4_3 m a ix) ?_
  subst hix
  obtain ⟨px, gx, hx⟩ := hP.2 3 (by decide)
  obtain ⟨u0, v0, gu0, gv0, hl0⟩ := hL.2 0 (by decide)
  obtain ⟨u4, v4, gu4, gv4, hl4⟩ := hL.2 4 (by decide)
  obtain ⟨u6, v6, gu6, gv6, hl6⟩ := hL.2 6 (by decide)
  refine waloadN C X0 f8_0 rfl rfl ?_
  refine wget C X0 (host := "") (Or.inl (tw_10 hw)) Via.refl e0 Fld_0 f8_1 ?_
  intro T1 X1 e1
  refine wiloadN C X1 f8_4 rfl ?_
  refine wdaload C X1 e1 Arv_3 f8_5 ⟨by decide, by decide⟩ (i := 3) rfl (v := px) gx ?_
  refine wdstoreN C X1 f8_6 #[.val (.ref a), .val (.int (3 : Int32)), .val (.double px), .second, .unset, .unset, .unset, .unset, .unset, .unset] rfl ?_
  refine wdconst0 C X1 f8_7 ?_
  refine wdstore C X1 f8_8 #[.val (.ref a), .val (.int (3 : Int32)), .val (.double px), .second, .val (.double FP.dconst0), .second, .unset, .unset, .unset, .unset] rfl ?_
  refine wiconst C X1 f8_10 (0 : Int32) rfl ?_
  refine wistore C X1 f8_11 #[.val (.ref a), .val (.int (3 : Int32)), .val (.double px), .second, .val (.double FP.dconst0), .second, .val (.int (0 : Int32)), .unset, .unset, .unset] rfl ?_
  refine wiconst C X1 f8_13 (0 : Int32) rfl ?_
  refine wistore C X1 f8_14 #[.val (.ref a), .val (.int (3 : Int32)), .val (.double px), .second, .val (.double FP.dconst0), .second, .val (.int (0 : Int32)), .val (.int (0 : Int32)), .unset, .unset] rfl ?_
  refine waloadN C X1 f8_16 rfl rfl ?_
  refine wget C X1 (host := "") (Or.inl (tw_19 hw)) Via.refl e1 Fld_1 f8_17 ?_
  intro T2 X2 e2
  refine wiconst C X2 f8_20 (1 : Int32) rfl ?_
  refine wisub C X2 f8_21 ?_
  refine own_foldI (z := (3 : Int32)) (by decide) ?_
  refine wistore C X2 f8_22 #[.val (.ref a), .val (.int (3 : Int32)), .val (.double px), .second, .val (.double FP.dconst0), .second, .val (.int (0 : Int32)), .val (.int (0 : Int32)), .val (.int (3 : Int32)), .unset] rfl ?_
  refine wdload C X2 f8_24 rfl ?_
  refine waloadN C X2 f8_26 rfl rfl ?_
  refine wget C X2 (host := "") (Or.inl (tw_12 hw)) Via.refl e2 Fld_2 f8_27 ?_
  intro T3 X3 e3
  refine wiconst C X3 f8_30 (2 : Int32) rfl ?_
  refine wiload C X3 f8_31 rfl ?_
  refine wimul C X3 f8_33 ?_
  refine own_foldI (z := (0 : Int32)) (by decide) ?_
  refine wdaload C X3 e3 Arv_4 f8_34 ⟨by decide, by decide⟩ (i := 0) rfl (v := u0) gu0 ?_
  refine wdloadN C X3 f8_35 rfl ?_
  refine waloadN C X3 f8_36 rfl rfl ?_
  refine wget C X3 (host := "") (Or.inl (tw_12 hw)) Via.refl e3 Fld_2 f8_37 ?_
  intro T4 X4 e4
  refine wiconst C X4 f8_40 (2 : Int32) rfl ?_
  refine wiload C X4 f8_41 rfl ?_
  refine wimul C X4 f8_43 ?_
  refine own_foldI (z := (0 : Int32)) (by decide) ?_
  refine wiconst C X4 f8_44 (1 : Int32) rfl ?_
  refine wiadd C X4 f8_45 ?_
  refine own_foldI (z := (1 : Int32)) (by decide) ?_
  refine wdaload C X4 e4 Arv_4 f8_46 ⟨by decide, by decide⟩ (i := 1) rfl (v := v0) gv0 ?_
  refine wdadd C X4 f8_47 (v := (FP.dadd px v0)) rfl (own_H_nn (own_pd hx hl0)) ?_
  refine wdmul C X4 f8_48 (v := (FP.dmul u0 (FP.dadd px v0))) rfl (own_H_nn (own_lv hx hl0)) ?_
  refine wmaxD C X4 (tw_43 hw) (tw_44 hw) (tw_45 hw) (tw_46 hw) e4 f8_49 (own_H_nn own_H_0) (own_H_nn (own_lv hx hl0)) rfl (W := 0) (Nat.le_of_eq rfl) (by decide) (by decide) (by decide) (by decide) ?_
  intro T5 X5 e5
  refine wdstore C X5 f8_52 #[.val (.ref a), .val (.int (3 : Int32)), .val (.double px), .second, .val (.double (Jvm.Native.java_lang_Math.nans.pick64 true FP.dconst0 (FP.dmul u0 (FP.dadd px v0)))), .second, .val (.int (0 : Int32)), .val (.int (0 : Int32)), .val (.int (3 : Int32)), .unset] rfl ?_
  refine wiload C X5 f8_54 rfl ?_
  refine wiload C X5 f8_56 rfl ?_
  refine wicmp_ne C X5 f8_58 (fun q => absurd q (by decide : ¬ ((0 : Int32) = (3 : Int32)))) ?_
  intro _
  refine wiload C X5 f8_68 rfl ?_
  refine wiload C X5 f8_70 rfl ?_
  refine wiadd C X5 f8_72 ?_
  refine own_foldI (z := (3 : Int32)) (by decide) ?_
  refine wiconst C X5 f8_73 (1 : Int32) rfl ?_
  refine wiushr C X5 f8_74 ?_
  refine own_foldI (z := (1 : Int32)) (by decide) ?_
  refine wistore C X5 f8_75 #[.val (.ref a), .val (.int (3 : Int32)), .val (.double px), .second, .val (.double (Jvm.Native.java_lang_Math.nans.pick64 true FP.dconst0 (FP.dmul u0 (FP.dadd px v0)))), .second, .val (.int (0 : Int32)), .val (.int (0 : Int32)), .val (.int (3 : Int32)), .val (.int (1 : Int32))] rfl ?_
  refine wiloadN C X5 f8_77 rfl ?_
  refine wiload C X5 f8_78 rfl ?_
  refine wicmp_gt C X5 f8_80 ?_ (fun q => absurd (by decide : ((1 : Int32) < (3 : Int32))) q)
  intro _
  refine wiload C X5 f8_96 rfl ?_
  refine wiconst C X5 f8_98 (2 : Int32) rfl ?_
  refine wiload C X5 f8_99 rfl ?_
  refine wiload C X5 f8_101 rfl ?_
  refine wisub C X5 f8_103 ?_
  refine own_foldI (z := (1 : Int32)) (by decide) ?_
  refine wiconst C X5 f8_104 (1 : Int32) rfl ?_
  refine wiadd C X5 f8_105 ?_
  refine own_foldI (z := (2 : Int32)) (by decide) ?_
  refine wimul C X5 f8_106 ?_
  refine own_foldI (z := (4 : Int32)) (by decide) ?_
  refine wiadd C X5 f8_107 ?_
  refine own_foldI (z := (4 : Int32)) (by decide) ?_
  refine wistore C X5 f8_108 #[.val (.ref a), .val (.int (3 : Int32)), .val (.double px), .second, .val (.double (Jvm.Native.java_lang_Math.nans.pick64 true FP.dconst0 (FP.dmul u0 (FP.dadd px v0)))), .second, .val (.int (4 : Int32)), .val (.int (0 : Int32)), .val (.int (3 : Int32)), .val (.int (1 : Int32))] rfl ?_
  refine wiload C X5 f8_110 rfl ?_
  refine wiconst C X5 f8_112 (1 : Int32) rfl ?_
  refine wiadd C X5 f8_113 ?_
  refine own_foldI (z := (2 : Int32)) (by decide) ?_
  refine wistore C X5 f8_114 #[.val (.ref a), .val (.int (3 : Int32)), .val (.double px), .second, .val (.double (Jvm.Native.java_lang_Math.nans.pick64 true FP.dconst0 (FP.dmul u0 (FP.dadd px v0)))), .second, .val (.int (4 : Int32)), .val (.int (2 : Int32)), .val (.int (3 : Int32)), .val (.int (1 : Int32))] rfl ?_
  refine wgoto C X5 f8_116 ?_
  refine wdload C X5 f8_24 rfl ?_
  refine waloadN C X5 f8_26 rfl rfl ?_
  refine wget C X5 (host := "") (Or.inl (tw_12 hw)) Via.refl e5 Fld_2 f8_27 ?_
  intro T6 X6 e6
  refine wiconst C X6 f8_30 (2 : Int32) rfl ?_
  refine wiload C X6 f8_31 rfl ?_
  refine wimul C X6 f8_33 ?_
  refine own_foldI (z := (8 : Int32)) (by decide) ?_
  refine wdaload C X6 e6 Arv_4 f8_34 ⟨by decide, by decide⟩ (i := 8) rfl (v := u4) gu4 ?_
  refine wdloadN C X6 f8_35 rfl ?_
  refine waloadN C X6 f8_36 rfl rfl ?_
  refine wget C X6 (host := "") (Or.inl (tw_12 hw)) Via.refl e6 Fld_2 f8_37 ?_
  intro T7 X7 e7
  refine wiconst C X7 f8_40 (2 : Int32) rfl ?_
  refine wiload C X7 f8_41 rfl ?_
  refine wimul C X7 f8_43 ?_
  refine own_foldI (z := (8 : Int32)) (by decide) ?_
  refine wiconst C X7 f8_44 (1 : Int32) rfl ?_
  refine wiadd C X7 f8_45 ?_
  refine own_foldI (z := (9 : Int32)) (by decide) ?_
  refine wdaload C X7 e7 Arv_4 f8_46 ⟨by decide, by decide⟩ (i := 9) rfl (v := v4) gv4 ?_
  refine wdadd C X7 f8_47 (v := (FP.dadd px v4)) rfl (own_H_nn (own_pd hx hl4)) ?_
  refine wdmul C X7 f8_48 (v := (FP.dmul u4 (FP.dadd px v4))) rfl (own_H_nn (own_lv hx hl4)) ?_
  refine wmaxD C X7 (tw_43 hw) (tw_44 hw) (tw_45 hw) (tw_46 hw) e7 f8_49 (own_H_nn (own_H_max own_H_0 (own_lv hx hl0))) (own_H_nn (own_lv hx hl4)) rfl (W := 0) (Nat.le_of_eq rfl) (by decide) (by decide) (by decide) (by decide) ?_
  intro T8 X8 e8
  refine wdstore C X8 f8_52 #[.val (.ref a), .val (.int (3 : Int32)), .val (.double px), .second, .val (.double (Jvm.Native.java_lang_Math.nans.pick64 true (Jvm.Native.java_lang_Math.nans.pick64 true FP.dconst0 (FP.dmul u0 (FP.dadd px v0))) (FP.dmul u4 (FP.dadd px v4)))), .second, .val (.int (4 : Int32)), .val (.int (2 : Int32)), .val (.int (3 : Int32)), .val (.int (1 : Int32))] rfl ?_
  refine wiload C X8 f8_54 rfl ?_
  refine wiload C X8 f8_56 rfl ?_
  refine wicmp_ne C X8 f8_58 (fun q => absurd q (by decide : ¬ ((2 : Int32) = (3 : Int32)))) ?_
  intro _
  refine wiload C X8 f8_68 rfl ?_
  refine wiload C X8 f8_70 rfl ?_
  refine wiadd C X8 f8_72 ?_
  refine own_foldI (z := (5 : Int32)) (by decide) ?_
  refine wiconst C X8 f8_73 (1 : Int32) rfl ?_
  refine wiushr C X8 f8_74 ?_
  refine own_foldI (z := (2 : Int32)) (by decide) ?_
  refine wistore C X8 f8_75 #[.val (.ref a), .val (.int (3 : Int32)), .val (.double px), .second, .val (.double (Jvm.Native.java_lang_Math.nans.pick64 true (Jvm.Native.java_lang_Math.nans.pick64 true FP.dconst0 (FP.dmul u0 (FP.dadd px v0))) (FP.dmul u4 (FP.dadd px v4)))), .second, .val (.int (4 : Int32)), .val (.int (2 : Int32)), .val (.int (3 : Int32)), .val (.int (2 : Int32))] rfl ?_
  refine wiloadN C X8 f8_77 rfl ?_
  refine wiload C X8 f8_78 rfl ?_
  refine wicmp_gt C X8 f8_80 ?_ (fun q => absurd (by decide : ((2 : Int32) < (3 : Int32))) q)
  intro _
  refine wiload C X8 f8_96 rfl ?_
  refine wiconst C X8 f8_98 (2 : Int32) rfl ?_
  refine wiload C X8 f8_99 rfl ?_
  refine wiload C X8 f8_101 rfl ?_
  refine wisub C X8 f8_103 ?_
  refine own_foldI (z := (0 : Int32)) (by decide) ?_
  refine wiconst C X8 f8_104 (1 : Int32) rfl ?_
  refine wiadd C X8 f8_105 ?_
  refine own_foldI (z := (1 : Int32)) (by decide) ?_
  refine wimul C X8 f8_106 ?_
  refine own_foldI (z := (2 : Int32)) (by decide) ?_
  refine wiadd C X8 f8_107 ?_
  refine own_foldI (z := (6 : Int32)) (by decide) ?_
  refine wistore C X8 f8_108 #[.val (.ref a), .val (.int (3 : Int32)), .val (.double px), .second, .val (.double (Jvm.Native.java_lang_Math.nans.pick64 true (Jvm.Native.java_lang_Math.nans.pick64 true FP.dconst0 (FP.dmul u0 (FP.dadd px v0))) (FP.dmul u4 (FP.dadd px v4)))), .second, .val (.int (6 : Int32)), .val (.int (2 : Int32)), .val (.int (3 : Int32)), .val (.int (2 : Int32))] rfl ?_
  refine wiload C X8 f8_110 rfl ?_
  refine wiconst C X8 f8_112 (1 : Int32) rfl ?_
  refine wiadd C X8 f8_113 ?_
  refine own_foldI (z := (3 : Int32)) (by decide) ?_
  refine wistore C X8 f8_114 #[.val (.ref a), .val (.int (3 : Int32)), .val (.double px), .second, .val (.double (Jvm.Native.java_lang_Math.nans.pick64 true (Jvm.Native.java_lang_Math.nans.pick64 true FP.dconst0 (FP.dmul u0 (FP.dadd px v0))) (FP.dmul u4 (FP.dadd px v4)))), .second, .val (.int (6 : Int32)), .val (.int (3 : Int32)), .val (.int (3 : Int32)), .val (.int (2 : Int32))] rfl ?_
  refine wgoto C X8 f8_116 ?_
  refine wdload C X8 f8_24 rfl ?_
  refine waloadN C X8 f8_26 rfl rfl ?_
  refine wget C X8 (host := "") (Or.inl (tw_12 hw)) Via.refl e8 Fld_2 f8_27 ?_
  intro T9 X9 e9
  refine wiconst C X9 f8_30 (2 : Int32) rfl ?_
  refine wiload C X9 f8_31 rfl ?_
  refine wimul C X9 f8_33 ?_
  refine own_foldI (z := (12 : Int32)) (by decide) ?_
  refine wdaload C X9 e9 Arv_4 f8_34 ⟨by decide, by decide⟩ (i := 12) rfl (v := u6) gu6 ?_
  refine wdloadN C X9 f8_35 rfl ?_
  refine waloadN C X9 f8_36 rfl rfl ?_
  refine wget C X9 (host := "") (Or.inl (tw_12 hw)) Via.refl e9 Fld_2 f8_37 ?_
  intro T10 X10 e10
  refine wiconst C X10 f8_40 (2 : Int32) rfl ?_
  refine wiload C X10 f8_41 rfl ?_
  refine wimul C X10 f8_43 ?_
  refine own_foldI (z := (12 : Int32)) (by decide) ?_
  refine wiconst C X10 f8_44 (1 : Int32) rfl ?_
  refine wiadd C X10 f8_45 ?_
  refine own_foldI (z := (13 : Int32)) (by decide) ?_
  refine wdaload C X10 e10 Arv_4 f8_46 ⟨by decide, by decide⟩ (i := 13) rfl (v := v6) gv6 ?_
  refine wdadd C X10 f8_47 (v := (FP.dadd px v6)) rfl (own_H_nn (own_pd hx hl6)) ?_
  refine wdmul C X10 f8_48 (v := (FP.dmul u6 (FP.dadd px v6))) rfl (own_H_nn (own_lv hx hl6)) ?_
  refine wmaxD C X10 (tw_43 hw) (tw_44 hw) (tw_45 hw) (tw_46 hw) e10 f8_49 (own_H_nn (own_H_max (own_H_max own_H_0 (own_lv hx hl0)) (own_lv hx hl4))) (own_H_nn (own_lv hx hl6)) rfl (W := 0) (Nat.le_of_eq rfl) (by decide) (by decide) (by decide) (by decide) ?_
  intro T11 X11 e11
  refine wdstore C X11 f8_52 #[.val (.ref a), .val (.int (3 : Int32)), .val (.double px), .second, .val (.double (Jvm.Native.java_lang_Math.nans.pick64 true (Jvm.Native.java_lang_Math.nans.pick64 true (Jvm.Native.java_lang_Math.nans.pick64 true FP.dconst0 (FP.dmul u0 (FP.dadd px v0))) (FP.dmul u4 (FP.dadd px v4))) (FP.dmul u6 (FP.dadd px v6)))), .second, .val (.int (6 : Int32)), .val (.int (3 : Int32)), .val (.int (3 : Int32)), .val (.int (2 : Int32))] rfl ?_
  refine wiload C X11 f8_54 rfl ?_
  refine wiload C X11 f8_56 rfl ?_
  refine wicmp_ne C X11 f8_58 ?_ (fun q => absurd (by decide : ((3 : Int32) = (3 : Int32))) q)
  intro _
  refine wldc2D C X11 (tw_21 hw) f8_61 ?_
  refine wdload C X11 f8_64 rfl ?_
  refine wdmul C X11 f8_66 (v := (FP.dmul (4611686018427387904 : UInt64) (Jvm.Native.java_lang_Math.nans.pick64 true (Jvm.Native.java_lang_Math.nans.pick64 true (Jvm.Native.java_lang_Math.nans.pick64 true FP.dconst0 (FP.dmul u0 (FP.dadd px v0))) (FP.dmul u4 (FP.dadd px v4))) (FP.dmul u6 (FP.dadd px v6))))) rfl (own_nn (own_H_dbl (own_H_max (own_H_max (own_H_max own_H_0 (own_lv hx hl0)) (own_lv hx hl4)) (own_lv hx hl6)) (by have z0 := own_lvb hx hl0; have z4 := own_lvb hx hl4; have z6 := own_lvb hx hl6; omega))) ?_
  refine wdret C X11 f8_67 rfl (by decide) (by decide) ?_
  rw [e11]
  exact ⟨(FP.dmul (4611686018427387904 : UInt64) (Jvm.Native.java_lang_Math.nans.pick64 true (Jvm.Native.java_lang_Math.nans.pick64 true (Jvm.Native.java_lang_Math.nans.pick64 true FP.dconst0 (FP.dmul u0 (FP.dadd px v0))) (FP.dmul u4 (FP.dadd px v4))) (FP.dmul u6 (FP.dadd px v6)))), rfl, N0, rfl, (by have z0 := own_lvb hx hl0; have z4 := own_lvb hx hl4; have z6 := own_lvb hx hl6; simp only [own_pm]; exact own_di (own_H_dbl (own_H_max (own_H_max (own_H_max own_H_0 (own_lv hx hl0)) (own_lv hx hl4)) (own_lv hx hl6)) (by omega)) (by simp; omega))⟩
theorem c_lt0 (u v : Int64) : lcmpW u v < (0 : Int32) ↔ u.toInt < v.toInt := by
  have h := c_lcmp u v
  rw [Int32.lt_iff_toInt_lt, show (0 : Int32).toInt = 0 by decide]
  omega
theorem own_ex {u v : Int64} : (R12 u v).toInt = max u.toInt v.toInt := by
  unfold R12
  split
  · rename_i q; rw [c_lt0] at q; omega
  · rename_i q; rw [c_lt0] at q; omega
theorem own_msk (z : Int32) : 0 ≤ (z &&& (255 : Int32)).toInt64.toInt ∧ (z &&& (255 : Int32)).toInt64.toInt ≤ 255 := by
  have h := c_and z 255 (by decide)
  rw [c_i2l]
  rwa [show (255 : Int32).toInt = 255 by decide] at h
theorem own_pp {u v : Int64} {B : Int} (hu : 0 ≤ u.toInt ∧ u.toInt ≤ B) (hv : 0 ≤ v.toInt ∧ v.toInt ≤ 255) (hB : B ≤ 100000) : (u + (1 : Int64) + v).toInt = u.toInt + 1 + v.toInt ∧ 0 ≤ (u + (1 : Int64) + v).toInt ∧ (u + (1 : Int64) + v).toInt ≤ B + 256 := by
  have h1 := c_ladd u (1 : Int64)
  have h2 := c_ladd (u + (1 : Int64)) v
  have r1 := rng64 (u + (1 : Int64))
  have r2 := rng64 (u + (1 : Int64) + v)
  rw [show (1 : Int64).toInt = 1 by decide] at h1
  omega
theorem own_ct (z : Int32) : 1 ≤ ((1 : Int32) + (z &&& (3 : Int32))).toInt ∧ ((1 : Int32) + (z &&& (3 : Int32))).toInt ≤ 4 := by
  have h := c_and z 3 (by decide)
  have h2 := c_iadd (1 : Int32) (z &&& (3 : Int32))
  have r := rng32 ((1 : Int32) + (z &&& (3 : Int32)))
  rw [show (3 : Int32).toInt = 3 by decide] at h
  rw [show (1 : Int32).toInt = 1 by decide] at h2
  omega
theorem own_i0 {k : Int32} {n : Int} (z : Int32) (hz : z.toInt = n) (h : k.toInt = n) : k = z := Int32.toInt_inj.mp (h.trans hz.symm)
theorem own_split {ct : Int32} (hc : 1 ≤ ct.toInt ∧ ct.toInt ≤ 4) : ct = 1 ∨ ct = 2 ∨ ct = 3 ∨ ct = 4 := by
  have b1 : ct.toInt = 1 → ct = 1 := own_i0 1 (by decide)
  have b2 : ct.toInt = 2 → ct = 2 := own_i0 2 (by decide)
  have b3 : ct.toInt = 3 → ct = 3 := own_i0 3 (by decide)
  have b4 : ct.toInt = 4 → ct = 4 := own_i0 4 (by decide)
  rcases (by omega : ct.toInt = 1 ∨ ct.toInt = 2 ∨ ct.toInt = 3 ∨ ct.toInt = 4) with h | h | h | h
  · exact Or.inl (b1 h)
  · exact Or.inr (Or.inl (b2 h))
  · exact Or.inr (Or.inr (Or.inl (b3 h)))
  · exact Or.inr (Or.inr (Or.inr (b4 h)))
theorem own_w (i : Int32) : 1 ≤ ((1 : Int32) + (i &&& (65535 : Int32))).toInt64.toInt ∧ ((1 : Int32) + (i &&& (65535 : Int32))).toInt64.toInt ≤ 65536 := by
  have h := c_and i 65535 (by decide)
  have h2 := c_iadd (1 : Int32) (i &&& (65535 : Int32))
  have r := rng32 ((1 : Int32) + (i &&& (65535 : Int32)))
  rw [c_i2l]
  rw [show (65535 : Int32).toInt = 65535 by decide] at h
  rw [show (1 : Int32).toInt = 1 by decide] at h2
  omega
theorem own_d (i : Int32) : 0 ≤ ((i.toUInt32 >>> ((16 : Int32) &&& 31).toUInt32).toInt32 &&& (32767 : Int32)).toInt64.toInt ∧ ((i.toUInt32 >>> ((16 : Int32) &&& 31).toUInt32).toInt32 &&& (32767 : Int32)).toInt64.toInt ≤ 32767 := by
  have h := c_and ((i.toUInt32 >>> ((16 : Int32) &&& 31).toUInt32).toInt32) 32767 (by decide)
  rw [c_i2l]
  rwa [show (32767 : Int32).toInt = 32767 by decide] at h
theorem own_mulb {w q d : Int64} (hw : 1 ≤ w.toInt ∧ w.toInt ≤ 65536) (hq : 0 ≤ q.toInt ∧ q.toInt ≤ 65536) (hd : 0 ≤ d.toInt ∧ d.toInt ≤ 32767) : (w * (q + d)).toInt = w.toInt * (q.toInt + d.toInt) ∧ 0 ≤ w.toInt * (q.toInt + d.toInt) ∧ w.toInt * (q.toInt + d.toInt) ≤ 10000000000 := by
  have h1 := c_ladd q d
  have r1 := rng64 (q + d)
  have e : (q + d).toInt = q.toInt + d.toInt := by omega
  have h2 := c_lmul w (q + d)
  have r2 := rng64 (w * (q + d))
  rw [e] at h2
  have m := mc (a := w.toInt) (b := q.toInt + d.toInt) (l1 := 1) (h1 := 65536) (l2 := 0) (h2 := 98303) (by omega) (by omega) (by omega) (by omega)
  omega
theorem own_best (xx : Int64) (l1 l2 l3 l4 : Int32) (hq : 0 ≤ xx.toInt ∧ xx.toInt ≤ 65536) : (R12 (R12 (R12 (((1 : Int32) + (l1 &&& (65535 : Int32))).toInt64 * (xx + ((l1.toUInt32 >>> ((16 : Int32) &&& 31).toUInt32).toInt32 &&& (32767 : Int32)).toInt64)) (((1 : Int32) + (l2 &&& (65535 : Int32))).toInt64 * (xx + ((l2.toUInt32 >>> ((16 : Int32) &&& 31).toUInt32).toInt32 &&& (32767 : Int32)).toInt64))) (((1 : Int32) + (l3 &&& (65535 : Int32))).toInt64 * (xx + ((l3.toUInt32 >>> ((16 : Int32) &&& 31).toUInt32).toInt32 &&& (32767 : Int32)).toInt64))) (((1 : Int32) + (l4 &&& (65535 : Int32))).toInt64 * (xx + ((l4.toUInt32 >>> ((16 : Int32) &&& 31).toUInt32).toInt32 &&& (32767 : Int32)).toInt64))).toInt = max (max (max (((1 : Int32) + (l1 &&& (65535 : Int32))).toInt64.toInt * (xx.toInt + ((l1.toUInt32 >>> ((16 : Int32) &&& 31).toUInt32).toInt32 &&& (32767 : Int32)).toInt64.toInt)) (((1 : Int32) + (l2 &&& (65535 : Int32))).toInt64.toInt * (xx.toInt + ((l2.toUInt32 >>> ((16 : Int32) &&& 31).toUInt32).toInt32 &&& (32767 : Int32)).toInt64.toInt))) (((1 : Int32) + (l3 &&& (65535 : Int32))).toInt64.toInt * (xx.toInt + ((l3.toUInt32 >>> ((16 : Int32) &&& 31).toUInt32).toInt32 &&& (32767 : Int32)).toInt64.toInt))) (((1 : Int32) + (l4 &&& (65535 : Int32))).toInt64.toInt * (xx.toInt + ((l4.toUInt32 >>> ((16 : Int32) &&& 31).toUInt32).toInt32 &&& (32767 : Int32)).toInt64.toInt)) ∧ (R12 (R12 (R12 (((1 : Int32) + (l1 &&& (65535 : Int32))).toInt64 * (xx + ((l1.toUInt32 >>> ((16 : Int32) &&& 31).toUInt32).toInt32 &&& (32767 : Int32)).toInt64)) (((1 : Int32) + (l2 &&& (65535 : Int32))).toInt64 * (xx + ((l2.toUInt32 >>> ((16 : Int32) &&& 31).toUInt32).toInt32 &&& (32767 : Int32)).toInt64))) (((1 : Int32) + (l3 &&& (65535 : Int32))).toInt64 * (xx + ((l3.toUInt32 >>> ((16 : Int32) &&& 31).toUInt32).toInt32 &&& (32767 : Int32)).toInt64))) (((1 : Int32) + (l4 &&& (65535 : Int32))).toInt64 * (xx + ((l4.toUInt32 >>> ((16 : Int32) &&& 31).toUInt32).toInt32 &&& (32767 : Int32)).toInt64))).toInt.natAbs ≤ 2 ^ 53 := by
  have m1 := own_mulb (own_w l1) hq (own_d l1)
  have m2 := own_mulb (own_w l2) hq (own_d l2)
  have m3 := own_mulb (own_w l3) hq (own_d l3)
  have m4 := own_mulb (own_w l4) hq (own_d l4)
  rw [own_ex, own_ex, own_ex, m1.1, m2.1, m3.1, m4.1]
  omega
def own_P4 (p0 p1 p2 p3 : Int) : Nat → Int := fun i => if i = 0 then p0 else if i = 1 then p1 else if i = 2 then p2 else p3
theorem own_mono4 {p0 p1 p2 p3 : Int} {k : Nat} (hk : k ≤ 4) (h1 : p0 ≤ p1) (h2 : p1 ≤ p2) (h3 : p2 ≤ p3) : ∀ i j, i ≤ j → j < k → own_P4 p0 p1 p2 p3 i ≤ own_P4 p0 p1 p2 p3 j := by
  intro i j hij hj
  have hi : i = 0 ∨ i = 1 ∨ i = 2 ∨ i = 3 := by omega
  have hj' : j = 0 ∨ j = 1 ∨ j = 2 ∨ j = 3 := by omega
  rcases hi with rfl | rfl | rfl | rfl <;> rcases hj' with rfl | rfl | rfl | rfl <;> first | omega | (simp [own_P4]; omega)
theorem own_Ps4 {p0 p1 p2 p3 : Int} {u0 u1 u2 u3 : UInt64} {k : Nat} (hk : k ≤ 4) (h0 : 0 < k → own_P p0 u0) (h1 : 1 < k → own_P p1 u1) (h2 : 2 < k → own_P p2 u2) (h3 : 3 < k → own_P p3 u3) : own_Ps [.double u0, .double u1, .double u2, .double u3] (own_P4 p0 p1 p2 p3) k := by
  refine ⟨rfl, fun i hi => ?_⟩
  have hi' : i = 0 ∨ i = 1 ∨ i = 2 ∨ i = 3 := by omega
  rcases hi' with rfl | rfl | rfl | rfl
  · exact ⟨_, rfl, h0 hi⟩
  · exact ⟨_, rfl, h1 hi⟩
  · exact ⟨_, rfl, h2 hi⟩
  · exact ⟨_, rfl, h3 hi⟩
theorem own_fin {x0 x1 x2 x3 x4 a b c d e : Int} (h1 : x1 = max x0 a) (h2 : x2 = max x1 b) (h3 : x3 = max x2 c) (h4 : x4 = max x3 d) (h0 : x0 = 0) (ha : 0 ≤ a) (he : e = max (max (max a b) c) d) : x4 = e := by omega
theorem own_L0 : own_L 0 0 0 0 := ⟨own_i2d 0, own_H_0, by decide, by decide, by decide, by decide⟩
theorem own_Ls0 : own_Ls [(.double (0 : UInt64)), (.double (0 : UInt64)), (.double (0 : UInt64)), (.double (0 : UInt64)), (.double (0 : UInt64)), (.double (0 : UInt64)), (.double (0 : UInt64)), (.double (0 : UInt64)), (.double (0 : UInt64)), (.double (0 : UInt64)), (.double (0 : UInt64)), (.double (0 : UInt64)), (.double (0 : UInt64)), (.double (0 : UInt64))] (fun _ => 0) (fun _ => 0) := by
  refine ⟨rfl, fun j hj => ⟨0, 0, ?_, ?_, own_L0⟩⟩
  all_goals
    have hj' : j = 0 ∨ j = 1 ∨ j = 2 ∨ j = 3 ∨ j = 4 ∨ j = 5 ∨ j = 6 := by omega
    rcases hj' with rfl | rfl | rfl | rfl | rfl | rfl | rfl <;> rfl
theorem own_dcz : own_L 0 0 FP.dconst0 FP.dconst0 := own_L0
theorem own_Lz (j : Nat) {a b : Nat} {ls : List Value} {W D : Nat → Int} (h : own_Ls ls W D) (hj : j < 7) (ha : a = 2 * j) (hb : b = 2 * j + 1) : own_Ls ((ls.set a (.double FP.dconst0)).set b (.double FP.dconst0)) (own_upd W j 0) (own_upd D j 0) := by
  subst ha hb; exact own_Ls_set h hj own_dcz
theorem own_hv {q : Int} {t : UInt64} (h : FP.Core.DInt q t) (h1 : 0 ≤ q) (h2 : q ≤ 65536) : own_P q (FP.ddiv t 4611686018427387904) := ⟨own_H_div h (by omega), h1, h2⟩
theorem own_l2p {u : Int64} {B : Int} (h : 0 ≤ u.toInt ∧ u.toInt ≤ B) (hB : B ≤ 65536) : own_P u.toInt (FP.ddiv (FP.l2d u) 4611686018427387904) := own_hv (own_l2d (by omega)) h.1 (by omega)
theorem own_wd {w d : Int64} (hw : 1 ≤ w.toInt ∧ w.toInt ≤ 65536) (hd : 0 ≤ d.toInt ∧ d.toInt ≤ 32767) : FP.Core.DInt w.toInt (FP.l2d w) ∧ FP.Core.DInt d.toInt (FP.l2d d) ∧ 0 ≤ w.toInt ∧ w.toInt ≤ 65536 ∧ 0 ≤ d.toInt ∧ d.toInt ≤ 32768 := ⟨own_l2d (by omega), own_l2d (by omega), by omega, by omega, by omega, by omega⟩
theorem f7_0 : Dec method_7_code 0 (.aload_n 0) 1 1 := ⟨by decide +kernel, rfl⟩
theorem f7_1 : Dec method_7_code 1 (.iload_n 1) 1 2 := ⟨by decide +kernel, rfl⟩
theorem f7_2 : Dec method_7_code 2 (.invokevirtual 44) 3 5 := ⟨by decide +kernel, rfl⟩
theorem f7_5 : Dec method_7_code 5 (.lload_n 2) 1 6 := ⟨by decide +kernel, rfl⟩
theorem f7_6 : Dec method_7_code 6 (.iload 4) 2 8 := ⟨by decide +kernel, rfl⟩
theorem f7_8 : Dec method_7_code 8 (.iload 5) 2 10 := ⟨by decide +kernel, rfl⟩
theorem f7_10 : Dec method_7_code 10 (.iload 6) 2 12 := ⟨by decide +kernel, rfl⟩
theorem f7_12 : Dec method_7_code 12 (.iload 7) 2 14 := ⟨by decide +kernel, rfl⟩
theorem f7_14 : Dec method_7_code 14 (.invokestatic 48) 3 17 := ⟨by decide +kernel, rfl⟩
theorem f7_17 : Dec method_7_code 17 (.l2d) 1 18 := ⟨by decide +kernel, rfl⟩
theorem f7_18 : Dec method_7_code 18 (.dcmp .l) 1 19 := ⟨by decide +kernel, rfl⟩
theorem f7_19 : DecJ method_7_code 19 (.ifCond .ne 7) 7 26 22 := ⟨by decide +kernel, by decide, by decide, rfl⟩
theorem f7_22 : Dec method_7_code 22 (.iconst 1) 1 23 := ⟨by decide +kernel, rfl⟩
theorem f7_23 : DecJ method_7_code 23 (.goto 4) 4 27 26 := ⟨by decide +kernel, by decide, by decide, rfl⟩
theorem f7_27 : Dec method_7_code 27 (.ireturn) 1 28 := ⟨by decide +kernel, rfl⟩
theorem pn_7 : plainFor (⟨"com/example/arbor_center/arborcenter/objective/UpperEnvelopeAddPinLaw", "check", "(Lcom/example/arbor_center/arborcenter/objective/UpperEnvelope;IJIIII)Z"⟩ : MethodName) = true := plainFor_of_name (show plainName "com/example/arbor_center/arborcenter/objective/UpperEnvelopeAddPinLaw" = true by first | (simp [plainName, overriddenIn]; done) | decide +kernel)
theorem ef_7_1_0 (m : MethodId) (a : Addr) (ix : Int32) (xx : Int64) (l1 : Int32) (l2 : Int32) (l3 : Int32) (l4 : Int32) : entryFrame m #[(.ref a), (.int ix), (.long xx), (.int l1), (.int l2), (.int l3), (.int l4)] 8 = mkF m 0 #[.val (.ref a), .val (.int ix), .val (.long xx), .second, .val (.int l1), .val (.int l2), .val (.int l3), .val (.int l4)] [] := by first | (simp [entryFrame, mkF, argsToLocals, Value.category]; done) | rfl
def Q7_1_0 (Z : State) (a : Addr) (ix : Int32) (xx : Int64) (l1 : Int32) (l2 : Int32) (l3 : Int32) (l4 : Int32) (ph : Addr) (pl : Addr) (k1 : ClassId) (k2 : ClassId) (hp : List Value) (ls : List Value) (P : Nat → Int) (W : Nat → Int) (D : Nat → Int) (h0 : Heap) (n0 : Nat) (v9 : Option Value) (h9 : Heap) (L9 : List Loc) : Prop := v9 = some (.int (1 : Int32)) ∧ Fr n0 L9 ∧ h9 = h0
set_option maxRecDepth 65536 in
set_option maxHeartbeats 40000000 in
theorem rm7_1_0 (l : Launch) (Z : State) (a0 : Array Value) (hw : ∀ d ∈ tables_1, d.before a0 Z = true) (ws : List Jvm.Cond) (a : Addr) (ix : Int32) (xx : Int64) (l1 : Int32) (l2 : Int32) (l3 : Int32) (l4 : Int32) (ph : Addr) (pl : Addr) (k1 : ClassId) (k2 : ClassId) (hp : List Value) (ls : List Value) (P : Nat → Int) (W : Nat → Int) (D : Nat → Int) (h0 : Heap) (n0 : Nat) (Z0 : n0 ≤ h0.size) (Exa_0 : Exa Z h0 a "com/example/arbor_center/arborcenter/objective/UpperEnvelope") (Fld_1 : Fld Z h0 a "com/example/arbor_center/arborcenter/objective/UpperEnvelope" "halfPoints" "[D" (.ref ph)) (Fld_2 : Fld Z h0 a "com/example/arbor_center/arborcenter/objective/UpperEnvelope" "count" "I" (.int (1 : Int32))) (Fld_3 : Fld Z h0 a "com/example/arbor_center/arborcenter/objective/UpperEnvelope" "lines" "[D" (.ref pl)) (Arv_4 : Arv Z h0 ph k1 .double (4 : Int32) hp (.double (0 : UInt64))) (Arv_5 : Arv Z h0 pl k2 .double (14 : Int32) ls (.double (0 : UInt64))) (hix : (ix = (0 : Int32))) (hL : (own_Ls ls W D)) (hP : (own_Ps hp P 1)) (hE : (own_pm 3 0 0 (1 - 1) W D (P 0) 0 = (R12 (R12 (R12 (((1 : Int32) + (l1 &&& (65535 : Int32))).toInt64 * (xx + ((l1.toUInt32 >>> ((16 : Int32) &&& 31).toUInt32).toInt32 &&& (32767 : Int32)).toInt64)) (((1 : Int32) + (l2 &&& (65535 : Int32))).toInt64 * (xx + ((l2.toUInt32 >>> ((16 : Int32) &&& 31).toUInt32).toInt32 &&& (32767 : Int32)).toInt64))) (((1 : Int32) + (l3 &&& (65535 : Int32))).toInt64 * (xx + ((l3.toUInt32 >>> ((16 : Int32) &&& 31).toUInt32).toInt32 &&& (32767 : Int32)).toInt64))) (((1 : Int32) + (l4 &&& (65535 : Int32))).toInt64 * (xx + ((l4.toUInt32 >>> ((16 : Int32) &&& 31).toUInt32).toInt32 &&& (32767 : Int32)).toInt64))).toInt)) (hB : ((R12 (R12 (R12 (((1 : Int32) + (l1 &&& (65535 : Int32))).toInt64 * (xx + ((l1.toUInt32 >>> ((16 : Int32) &&& 31).toUInt32).toInt32 &&& (32767 : Int32)).toInt64)) (((1 : Int32) + (l2 &&& (65535 : Int32))).toInt64 * (xx + ((l2.toUInt32 >>> ((16 : Int32) &&& 31).toUInt32).toInt32 &&& (32767 : Int32)).toInt64))) (((1 : Int32) + (l3 &&& (65535 : Int32))).toInt64 * (xx + ((l3.toUInt32 >>> ((16 : Int32) &&& 31).toUInt32).toInt32 &&& (32767 : Int32)).toInt64))) (((1 : Int32) + (l4 &&& (65535 : Int32))).toInt64 * (xx + ((l4.toUInt32 >>> ((16 : Int32) &&& 31).toUInt32).toInt32 &&& (32767 : Int32)).toInt64))).toInt.natAbs ≤ 2 ^ 53)) :
    MetFree l (⟨"com/example/arbor_center/arborcenter/objective/UpperEnvelopeAddPinLaw", "check", "(Lcom/example/arbor_center/arborcenter/objective/UpperEnvelope;IJIIII)Z"⟩ : MethodName) (head1 (Jvm.Cond.code (⟨"com/example/arbor_center/arborcenter/objective/UpperEnvelopeAddPinLaw", "check", "(Lcom/example/arbor_center/arborcenter/objective/UpperEnvelope;IJIIII)Z"⟩ : MethodName) method_7_code 8 (some .boolean) :: ws) ({ frames := 3, cells := 0, slots := 0, locals := 53 } : Room)) (fun A9 U9 => A9 = #[(.ref a), (.int ix), (.long xx), (.int l1), (.int l2), (.int l3), (.int l4)] ∧ Z.Warmed39 U9.vm ∧ U9.heap = h0) (fun _ _ _ _ _ => True) (fun _ U9 o9 V9 => ∃ v9 L9, o9 = .returned v9 ∧ (Q7_1_0 Z a ix xx l1 l2 l3 l4 ph pl k1 k2 hp ls P W D h0 n0) v9 V9.heap L9 ∧ FrameEnd U9 o9 V9 L9 ({ frames := 3, cells := 0, slots := 0, locals := 53 } : Room).cells ({ frames := 3, cells := 0, slots := 0, locals := 53 } : Room).slots) := by
  refine met_of (Q := (Q7_1_0 Z a ix xx l1 l2 l3 l4 ph pl k1 k2 hp ls P W D h0 n0)) pn_7 ?_
  intro p e s m below meth c T0 C X0 e0
  have N0 := Fr.nil n0
  refine Go.cast (ef_7_1_0 m a ix xx l1 l2 l3 l4) ?_
  subst hix
  refine waloadN C X0 f7_0 rfl rfl ?_
  refine wiloadN C X0 f7_1 rfl ?_
  refine wvirtual C X0 (y := (⟨"com/example/arbor_center/arborcenter/objective/UpperEnvelope", "at", "(I)D"⟩ : MethodName)) (z := (⟨"com/example/arbor_center/arborcenter/objective/UpperEnvelope", "at", "(I)D"⟩ : MethodName)) (tw_38 hw) (tw_39 hw) (notFace_of_selects (args := #[]) (mvT C.2.1 (tw_41 hw))) (tw_41 hw) (tw_40 hw) (tw_42 hw) (tw_3 hw) (by decide) (rm8_1_0 l Z a0 hw [] a (0 : Int32) ph pl k1 k2 hp ls P W D h0 n0 Z0 Fld_1 Fld_2 Fld_3 Arv_4 Arv_5 rfl hL hP) e0 (a := a) Exa_0 f7_2 (argsL := [(.int (0 : Int32))]) (rest := []) rfl rfl (lenOf pd_3 rfl) rfl (W := 0) (Nat.le_of_eq rfl) (by decide) (by decide) (by decide) (by decide) ?_
  intro v1 T1 L1 X1 q1
  obtain ⟨rv_1, rfl, Nq1, eq1, G1_0⟩ := q1
  have N1 := Fr.app N0 Nq1
  show Go p e below s _ _ _ T1 (mkF m 5 #[.val (.ref a), .val (.int (0 : Int32)), .val (.long xx), .second, .val (.int l1), .val (.int l2), .val (.int l3), .val (.int l4)] [(.double rv_1)])
  refine wlloadN C X1 f7_5 rfl ?_
  refine wiload C X1 f7_6 rfl ?_
  refine wiload C X1 f7_8 rfl ?_
  refine wiload C X1 f7_10 rfl ?_
  refine wiload C X1 f7_12 rfl ?_
  refine wstatic C X1 (y := (⟨"com/example/arbor_center/arborcenter/objective/UpperEnvelopeAddPinLaw", "best", "(JIIII)J"⟩ : MethodName)) (tw_47 hw) (tw_48 hw) (tw_24 hw) (tw_49 hw) (by decide) (rm10 l Z a0 hw [] xx l1 l2 l3 l4 h0 n0 Z0) eq1 f7_14 (argsL := [(.long xx), (.int l1), (.int l2), (.int l3), (.int l4)]) (rest := [(.double rv_1)]) rfl rfl (lenOf pd_4 rfl) rfl (W := 2) (Nat.le_of_eq rfl) (by decide) (by decide) (by decide) (by decide) ?_
  intro v2 T2 L2 X2 q2
  obtain ⟨rfl, Nq2, eq2⟩ := q2
  have N2 := Fr.app N1 Nq2
  show Go p e below s _ _ _ T2 (mkF m 17 #[.val (.ref a), .val (.int (0 : Int32)), .val (.long xx), .second, .val (.int l1), .val (.int l2), .val (.int l3), .val (.int l4)] [(.long (R12 (R12 (R12 (((1 : Int32) + (l1 &&& (65535 : Int32))).toInt64 * (xx + ((l1.toUInt32 >>> ((16 : Int32) &&& 31).toUInt32).toInt32 &&& (32767 : Int32)).toInt64)) (((1 : Int32) + (l2 &&& (65535 : Int32))).toInt64 * (xx + ((l2.toUInt32 >>> ((16 : Int32) &&& 31).toUInt32).toInt32 &&& (32767 : Int32)).toInt64))) (((1 : Int32) + (l3 &&& (65535 : Int32))).toInt64 * (xx + ((l3.toUInt32 >>> ((16 : Int32) &&& 31).toUInt32).toInt32 &&& (32767 : Int32)).toInt64))) (((1 : Int32) + (l4 &&& (65535 : Int32))).toInt64 * (xx + ((l4.toUInt32 >>> ((16 : Int32) &&& 31).toUInt32).toInt32 &&& (32767 : Int32)).toInt64)))), (.double rv_1)])
  refine wl2d C X2 f7_17 ?_
  refine wdcmp C X2 f7_18 (v := (cmpValue (FP.dcmp rv_1 (FP.l2d (R12 (R12 (R12 (((1 : Int32) + (l1 &&& (65535 : Int32))).toInt64 * (xx + ((l1.toUInt32 >>> ((16 : Int32) &&& 31).toUInt32).toInt32 &&& (32767 : Int32)).toInt64)) (((1 : Int32) + (l2 &&& (65535 : Int32))).toInt64 * (xx + ((l2.toUInt32 >>> ((16 : Int32) &&& 31).toUInt32).toInt32 &&& (32767 : Int32)).toInt64))) (((1 : Int32) + (l3 &&& (65535 : Int32))).toInt64 * (xx + ((l3.toUInt32 >>> ((16 : Int32) &&& 31).toUInt32).toInt32 &&& (32767 : Int32)).toInt64))) (((1 : Int32) + (l4 &&& (65535 : Int32))).toInt64 * (xx + ((l4.toUInt32 >>> ((16 : Int32) &&& 31).toUInt32).toInt32 &&& (32767 : Int32)).toInt64))))) .l)) rfl ?_
  refine wif_ne C X2 f7_19 ?_ (fun q => absurd ((own_eq G1_0 (own_l2d hB) _).mpr hE) q)
  intro _
  refine wiconst C X2 f7_22 (1 : Int32) rfl ?_
  refine wgoto C X2 f7_23 ?_
  refine wiretN C X2 (t := .boolean) (by simp) f7_27 rfl (1 : Int32) (by decide) (by decide) (by decide) ?_
  rw [eq2]
  exact ⟨rfl, N2, rfl⟩
theorem ef_7_2_0 (m : MethodId) (a : Addr) (ix : Int32) (xx : Int64) (l1 : Int32) (l2 : Int32) (l3 : Int32) (l4 : Int32) : entryFrame m #[(.ref a), (.int ix), (.long xx), (.int l1), (.int l2), (.int l3), (.int l4)] 8 = mkF m 0 #[.val (.ref a), .val (.int ix), .val (.long xx), .second, .val (.int l1), .val (.int l2), .val (.int l3), .val (.int l4)] [] := by first | (simp [entryFrame, mkF, argsToLocals, Value.category]; done) | rfl
def Q7_2_0 (Z : State) (a : Addr) (ix : Int32) (xx : Int64) (l1 : Int32) (l2 : Int32) (l3 : Int32) (l4 : Int32) (ph : Addr) (pl : Addr) (k1 : ClassId) (k2 : ClassId) (hp : List Value) (ls : List Value) (P : Nat → Int) (W : Nat → Int) (D : Nat → Int) (h0 : Heap) (n0 : Nat) (v9 : Option Value) (h9 : Heap) (L9 : List Loc) : Prop := v9 = some (.int (1 : Int32)) ∧ Fr n0 L9 ∧ h9 = h0
set_option maxRecDepth 65536 in
set_option maxHeartbeats 40000000 in
theorem rm7_2_0 (l : Launch) (Z : State) (a0 : Array Value) (hw : ∀ d ∈ tables_1, d.before a0 Z = true) (ws : List Jvm.Cond) (a : Addr) (ix : Int32) (xx : Int64) (l1 : Int32) (l2 : Int32) (l3 : Int32) (l4 : Int32) (ph : Addr) (pl : Addr) (k1 : ClassId) (k2 : ClassId) (hp : List Value) (ls : List Value) (P : Nat → Int) (W : Nat → Int) (D : Nat → Int) (h0 : Heap) (n0 : Nat) (Z0 : n0 ≤ h0.size) (Exa_0 : Exa Z h0 a "com/example/arbor_center/arborcenter/objective/UpperEnvelope") (Fld_1 : Fld Z h0 a "com/example/arbor_center/arborcenter/objective/UpperEnvelope" "halfPoints" "[D" (.ref ph)) (Fld_2 : Fld Z h0 a "com/example/arbor_center/arborcenter/objective/UpperEnvelope" "count" "I" (.int (2 : Int32))) (Fld_3 : Fld Z h0 a "com/example/arbor_center/arborcenter/objective/UpperEnvelope" "lines" "[D" (.ref pl)) (Arv_4 : Arv Z h0 ph k1 .double (4 : Int32) hp (.double (0 : UInt64))) (Arv_5 : Arv Z h0 pl k2 .double (14 : Int32) ls (.double (0 : UInt64))) (hix : (ix = (0 : Int32))) (hL : (own_Ls ls W D)) (hP : (own_Ps hp P 2)) (hE : (own_pm 3 0 0 (2 - 1) W D (P 0) 0 = (R12 (R12 (R12 (((1 : Int32) + (l1 &&& (65535 : Int32))).toInt64 * (xx + ((l1.toUInt32 >>> ((16 : Int32) &&& 31).toUInt32).toInt32 &&& (32767 : Int32)).toInt64)) (((1 : Int32) + (l2 &&& (65535 : Int32))).toInt64 * (xx + ((l2.toUInt32 >>> ((16 : Int32) &&& 31).toUInt32).toInt32 &&& (32767 : Int32)).toInt64))) (((1 : Int32) + (l3 &&& (65535 : Int32))).toInt64 * (xx + ((l3.toUInt32 >>> ((16 : Int32) &&& 31).toUInt32).toInt32 &&& (32767 : Int32)).toInt64))) (((1 : Int32) + (l4 &&& (65535 : Int32))).toInt64 * (xx + ((l4.toUInt32 >>> ((16 : Int32) &&& 31).toUInt32).toInt32 &&& (32767 : Int32)).toInt64))).toInt)) (hB : ((R12 (R12 (R12 (((1 : Int32) + (l1 &&& (65535 : Int32))).toInt64 * (xx + ((l1.toUInt32 >>> ((16 : Int32) &&& 31).toUInt32).toInt32 &&& (32767 : Int32)).toInt64)) (((1 : Int32) + (l2 &&& (65535 : Int32))).toInt64 * (xx + ((l2.toUInt32 >>> ((16 : Int32) &&& 31).toUInt32).toInt32 &&& (32767 : Int32)).toInt64))) (((1 : Int32) + (l3 &&& (65535 : Int32))).toInt64 * (xx + ((l3.toUInt32 >>> ((16 : Int32) &&& 31).toUInt32).toInt32 &&& (32767 : Int32)).toInt64))) (((1 : Int32) + (l4 &&& (65535 : Int32))).toInt64 * (xx + ((l4.toUInt32 >>> ((16 : Int32) &&& 31).toUInt32).toInt32 &&& (32767 : Int32)).toInt64))).toInt.natAbs ≤ 2 ^ 53)) :
    MetFree l (⟨"com/example/arbor_center/arborcenter/objective/UpperEnvelopeAddPinLaw", "check", "(Lcom/example/arbor_center/arborcenter/objective/UpperEnvelope;IJIIII)Z"⟩ : MethodName) (head1 (Jvm.Cond.code (⟨"com/example/arbor_center/arborcenter/objective/UpperEnvelopeAddPinLaw", "check", "(Lcom/example/arbor_center/arborcenter/objective/UpperEnvelope;IJIIII)Z"⟩ : MethodName) method_7_code 8 (some .boolean) :: ws) ({ frames := 3, cells := 0, slots := 0, locals := 53 } : Room)) (fun A9 U9 => A9 = #[(.ref a), (.int ix), (.long xx), (.int l1), (.int l2), (.int l3), (.int l4)] ∧ Z.Warmed39 U9.vm ∧ U9.heap = h0) (fun _ _ _ _ _ => True) (fun _ U9 o9 V9 => ∃ v9 L9, o9 = .returned v9 ∧ (Q7_2_0 Z a ix xx l1 l2 l3 l4 ph pl k1 k2 hp ls P W D h0 n0) v9 V9.heap L9 ∧ FrameEnd U9 o9 V9 L9 ({ frames := 3, cells := 0, slots := 0, locals := 53 } : Room).cells ({ frames := 3, cells := 0, slots := 0, locals := 53 } : Room).slots) := by
  refine met_of (Q := (Q7_2_0 Z a ix xx l1 l2 l3 l4 ph pl k1 k2 hp ls P W D h0 n0)) pn_7 ?_
  intro p e s m below meth c T0 C X0 e0
  have N0 := Fr.nil n0
  refine Go.cast (ef_7_2_0 m a ix xx l1 l2 l3 l4) ?_
  subst hix
  refine waloadN C X0 f7_0 rfl rfl ?_
  refine wiloadN C X0 f7_1 rfl ?_
  refine wvirtual C X0 (y := (⟨"com/example/arbor_center/arborcenter/objective/UpperEnvelope", "at", "(I)D"⟩ : MethodName)) (z := (⟨"com/example/arbor_center/arborcenter/objective/UpperEnvelope", "at", "(I)D"⟩ : MethodName)) (tw_38 hw) (tw_39 hw) (notFace_of_selects (args := #[]) (mvT C.2.1 (tw_41 hw))) (tw_41 hw) (tw_40 hw) (tw_42 hw) (tw_3 hw) (by decide) (rm8_2_0 l Z a0 hw [] a (0 : Int32) ph pl k1 k2 hp ls P W D h0 n0 Z0 Fld_1 Fld_2 Fld_3 Arv_4 Arv_5 rfl hL hP) e0 (a := a) Exa_0 f7_2 (argsL := [(.int (0 : Int32))]) (rest := []) rfl rfl (lenOf pd_3 rfl) rfl (W := 0) (Nat.le_of_eq rfl) (by decide) (by decide) (by decide) (by decide) ?_
  intro v1 T1 L1 X1 q1
  obtain ⟨rv_1, rfl, Nq1, eq1, G1_0⟩ := q1
  have N1 := Fr.app N0 Nq1
  show Go p e below s _ _ _ T1 (mkF m 5 #[.val (.ref a), .val (.int (0 : Int32)), .val (.long xx), .second, .val (.int l1), .val (.int l2), .val (.int l3), .val (.int l4)] [(.double rv_1)])
  refine wlloadN C X1 f7_5 rfl ?_
  refine wiload C X1 f7_6 rfl ?_
  refine wiload C X1 f7_8 rfl ?_
  refine wiload C X1 f7_10 rfl ?_
  refine wiload C X1 f7_12 rfl ?_
  refine wstatic C X1 (y := (⟨"com/example/arbor_center/arborcenter/objective/UpperEnvelopeAddPinLaw", "best", "(JIIII)J"⟩ : MethodName)) (tw_47 hw) (tw_48 hw) (tw_24 hw) (tw_49 hw) (by decide) (rm10 l Z a0 hw [] xx l1 l2 l3 l4 h0 n0 Z0) eq1 f7_14 (argsL := [(.long xx), (.int l1), (.int l2), (.int l3), (.int l4)]) (rest := [(.double rv_1)]) rfl rfl (lenOf pd_4 rfl) rfl (W := 2) (Nat.le_of_eq rfl) (by decide) (by decide) (by decide) (by decide) ?_
  intro v2 T2 L2 X2 q2
  obtain ⟨rfl, Nq2, eq2⟩ := q2
  have N2 := Fr.app N1 Nq2
  show Go p e below s _ _ _ T2 (mkF m 17 #[.val (.ref a), .val (.int (0 : Int32)), .val (.long xx), .second, .val (.int l1), .val (.int l2), .val (.int l3), .val (.int l4)] [(.long (R12 (R12 (R12 (((1 : Int32) + (l1 &&& (65535 : Int32))).toInt64 * (xx + ((l1.toUInt32 >>> ((16 : Int32) &&& 31).toUInt32).toInt32 &&& (32767 : Int32)).toInt64)) (((1 : Int32) + (l2 &&& (65535 : Int32))).toInt64 * (xx + ((l2.toUInt32 >>> ((16 : Int32) &&& 31).toUInt32).toInt32 &&& (32767 : Int32)).toInt64))) (((1 : Int32) + (l3 &&& (65535 : Int32))).toInt64 * (xx + ((l3.toUInt32 >>> ((16 : Int32) &&& 31).toUInt32).toInt32 &&& (32767 : Int32)).toInt64))) (((1 : Int32) + (l4 &&& (65535 : Int32))).toInt64 * (xx + ((l4.toUInt32 >>> ((16 : Int32) &&& 31).toUInt32).toInt32 &&& (32767 : Int32)).toInt64)))), (.double rv_1)])
  refine wl2d C X2 f7_17 ?_
  refine wdcmp C X2 f7_18 (v := (cmpValue (FP.dcmp rv_1 (FP.l2d (R12 (R12 (R12 (((1 : Int32) + (l1 &&& (65535 : Int32))).toInt64 * (xx + ((l1.toUInt32 >>> ((16 : Int32) &&& 31).toUInt32).toInt32 &&& (32767 : Int32)).toInt64)) (((1 : Int32) + (l2 &&& (65535 : Int32))).toInt64 * (xx + ((l2.toUInt32 >>> ((16 : Int32) &&& 31).toUInt32).toInt32 &&& (32767 : Int32)).toInt64))) (((1 : Int32) + (l3 &&& (65535 : Int32))).toInt64 * (xx + ((l3.toUInt32 >>> ((16 : Int32) &&& 31).toUInt32).toInt32 &&& (32767 : Int32)).toInt64))) (((1 : Int32) + (l4 &&& (65535 : Int32))).toInt64 * (xx + ((l4.toUInt32 >>> ((16 : Int32) &&& 31).toUInt32).toInt32 &&& (32767 : Int32)).toInt64))))) .l)) rfl ?_
  refine wif_ne C X2 f7_19 ?_ (fun q => absurd ((own_eq G1_0 (own_l2d hB) _).mpr hE) q)
  intro _
  refine wiconst C X2 f7_22 (1 : Int32) rfl ?_
  refine wgoto C X2 f7_23 ?_
  refine wiretN C X2 (t := .boolean) (by simp) f7_27 rfl (1 : Int32) (by decide) (by decide) (by decide) ?_
  rw [eq2]
  exact ⟨rfl, N2, rfl⟩
theorem ef_7_2_1 (m : MethodId) (a : Addr) (ix : Int32) (xx : Int64) (l1 : Int32) (l2 : Int32) (l3 : Int32) (l4 : Int32) : entryFrame m #[(.ref a), (.int ix), (.long xx), (.int l1), (.int l2), (.int l3), (.int l4)] 8 = mkF m 0 #[.val (.ref a), .val (.int ix), .val (.long xx), .second, .val (.int l1), .val (.int l2), .val (.int l3), .val (.int l4)] [] := by first | (simp [entryFrame, mkF, argsToLocals, Value.category]; done) | rfl
def Q7_2_1 (Z : State) (a : Addr) (ix : Int32) (xx : Int64) (l1 : Int32) (l2 : Int32) (l3 : Int32) (l4 : Int32) (ph : Addr) (pl : Addr) (k1 : ClassId) (k2 : ClassId) (hp : List Value) (ls : List Value) (P : Nat → Int) (W : Nat → Int) (D : Nat → Int) (h0 : Heap) (n0 : Nat) (v9 : Option Value) (h9 : Heap) (L9 : List Loc) : Prop := v9 = some (.int (1 : Int32)) ∧ Fr n0 L9 ∧ h9 = h0
set_option maxRecDepth 65536 in
set_option maxHeartbeats 40000000 in
theorem rm7_2_1 (l : Launch) (Z : State) (a0 : Array Value) (hw : ∀ d ∈ tables_1, d.before a0 Z = true) (ws : List Jvm.Cond) (a : Addr) (ix : Int32) (xx : Int64) (l1 : Int32) (l2 : Int32) (l3 : Int32) (l4 : Int32) (ph : Addr) (pl : Addr) (k1 : ClassId) (k2 : ClassId) (hp : List Value) (ls : List Value) (P : Nat → Int) (W : Nat → Int) (D : Nat → Int) (h0 : Heap) (n0 : Nat) (Z0 : n0 ≤ h0.size) (Exa_0 : Exa Z h0 a "com/example/arbor_center/arborcenter/objective/UpperEnvelope") (Fld_1 : Fld Z h0 a "com/example/arbor_center/arborcenter/objective/UpperEnvelope" "halfPoints" "[D" (.ref ph)) (Fld_2 : Fld Z h0 a "com/example/arbor_center/arborcenter/objective/UpperEnvelope" "count" "I" (.int (2 : Int32))) (Fld_3 : Fld Z h0 a "com/example/arbor_center/arborcenter/objective/UpperEnvelope" "lines" "[D" (.ref pl)) (Arv_4 : Arv Z h0 ph k1 .double (4 : Int32) hp (.double (0 : UInt64))) (Arv_5 : Arv Z h0 pl k2 .double (14 : Int32) ls (.double (0 : UInt64))) (hix : (ix = (1 : Int32))) (hL : (own_Ls ls W D)) (hP : (own_Ps hp P 2)) (hE : (own_pm 3 0 0 (2 - 1) W D (P 1) 1 = (R12 (R12 (R12 (((1 : Int32) + (l1 &&& (65535 : Int32))).toInt64 * (xx + ((l1.toUInt32 >>> ((16 : Int32) &&& 31).toUInt32).toInt32 &&& (32767 : Int32)).toInt64)) (((1 : Int32) + (l2 &&& (65535 : Int32))).toInt64 * (xx + ((l2.toUInt32 >>> ((16 : Int32) &&& 31).toUInt32).toInt32 &&& (32767 : Int32)).toInt64))) (((1 : Int32) + (l3 &&& (65535 : Int32))).toInt64 * (xx + ((l3.toUInt32 >>> ((16 : Int32) &&& 31).toUInt32).toInt32 &&& (32767 : Int32)).toInt64))) (((1 : Int32) + (l4 &&& (65535 : Int32))).toInt64 * (xx + ((l4.toUInt32 >>> ((16 : Int32) &&& 31).toUInt32).toInt32 &&& (32767 : Int32)).toInt64))).toInt)) (hB : ((R12 (R12 (R12 (((1 : Int32) + (l1 &&& (65535 : Int32))).toInt64 * (xx + ((l1.toUInt32 >>> ((16 : Int32) &&& 31).toUInt32).toInt32 &&& (32767 : Int32)).toInt64)) (((1 : Int32) + (l2 &&& (65535 : Int32))).toInt64 * (xx + ((l2.toUInt32 >>> ((16 : Int32) &&& 31).toUInt32).toInt32 &&& (32767 : Int32)).toInt64))) (((1 : Int32) + (l3 &&& (65535 : Int32))).toInt64 * (xx + ((l3.toUInt32 >>> ((16 : Int32) &&& 31).toUInt32).toInt32 &&& (32767 : Int32)).toInt64))) (((1 : Int32) + (l4 &&& (65535 : Int32))).toInt64 * (xx + ((l4.toUInt32 >>> ((16 : Int32) &&& 31).toUInt32).toInt32 &&& (32767 : Int32)).toInt64))).toInt.natAbs ≤ 2 ^ 53)) :
    MetFree l (⟨"com/example/arbor_center/arborcenter/objective/UpperEnvelopeAddPinLaw", "check", "(Lcom/example/arbor_center/arborcenter/objective/UpperEnvelope;IJIIII)Z"⟩ : MethodName) (head1 (Jvm.Cond.code (⟨"com/example/arbor_center/arborcenter/objective/UpperEnvelopeAddPinLaw", "check", "(Lcom/example/arbor_center/arborcenter/objective/UpperEnvelope;IJIIII)Z"⟩ : MethodName) method_7_code 8 (some .boolean) :: ws) ({ frames := 3, cells := 0, slots := 0, locals := 53 } : Room)) (fun A9 U9 => A9 = #[(.ref a), (.int ix), (.long xx), (.int l1), (.int l2), (.int l3), (.int l4)] ∧ Z.Warmed39 U9.vm ∧ U9.heap = h0) (fun _ _ _ _ _ => True) (fun _ U9 o9 V9 => ∃ v9 L9, o9 = .returned v9 ∧ (Q7_2_1 Z a ix xx l1 l2 l3 l4 ph pl k1 k2 hp ls P W D h0 n0) v9 V9.heap L9 ∧ FrameEnd U9 o9 V9 L9 ({ frames := 3, cells := 0, slots := 0, locals := 53 } : Room).cells ({ frames := 3, cells := 0, slots := 0, locals := 53 } : Room).slots) := by
  refine met_of (Q := (Q7_2_1 Z a ix xx l1 l2 l3 l4 ph pl k1 k2 hp ls P W D h0 n0)) pn_7 ?_
  intro p e s m below meth c T0 C X0 e0
  have N0 := Fr.nil n0
  refine Go.cast (ef_7_2_1 m a ix xx l1 l2 l3 l4) ?_
  subst hix
  refine waloadN C X0 f7_0 rfl rfl ?_
  refine wiloadN C X0 f7_1 rfl ?_
  refine wvirtual C X0 (y := (⟨"com/example/arbor_center/arborcenter/objective/UpperEnvelope", "at", "(I)D"⟩ : MethodName)) (z := (⟨"com/example/arbor_center/arborcenter/objective/UpperEnvelope", "at", "(I)D"⟩ : MethodName)) (tw_38 hw) (tw_39 hw) (notFace_of_selects (args := #[]) (mvT C.2.1 (tw_41 hw))) (tw_41 hw) (tw_40 hw) (tw_42 hw) (tw_3 hw) (by decide) (rm8_2_1 l Z a0 hw [] a (1 : Int32) ph pl k1 k2 hp ls P W D h0 n0 Z0 Fld_1 Fld_2 Fld_3 Arv_4 Arv_5 rfl hL hP) e0 (a := a) Exa_0 f7_2 (argsL := [(.int (1 : Int32))]) (rest := []) rfl rfl (lenOf pd_3 rfl) rfl (W := 0) (Nat.le_of_eq rfl) (by decide) (by decide) (by decide) (by decide) ?_
  intro v1 T1 L1 X1 q1
  obtain ⟨rv_1, rfl, Nq1, eq1, G1_0⟩ := q1
  have N1 := Fr.app N0 Nq1
  show Go p e below s _ _ _ T1 (mkF m 5 #[.val (.ref a), .val (.int (1 : Int32)), .val (.long xx), .second, .val (.int l1), .val (.int l2), .val (.int l3), .val (.int l4)] [(.double rv_1)])
  refine wlloadN C X1 f7_5 rfl ?_
  refine wiload C X1 f7_6 rfl ?_
  refine wiload C X1 f7_8 rfl ?_
  refine wiload C X1 f7_10 rfl ?_
  refine wiload C X1 f7_12 rfl ?_
  refine wstatic C X1 (y := (⟨"com/example/arbor_center/arborcenter/objective/UpperEnvelopeAddPinLaw", "best", "(JIIII)J"⟩ : MethodName)) (tw_47 hw) (tw_48 hw) (tw_24 hw) (tw_49 hw) (by decide) (rm10 l Z a0 hw [] xx l1 l2 l3 l4 h0 n0 Z0) eq1 f7_14 (argsL := [(.long xx), (.int l1), (.int l2), (.int l3), (.int l4)]) (rest := [(.double rv_1)]) rfl rfl (lenOf pd_4 rfl) rfl (W := 2) (Nat.le_of_eq rfl) (by decide) (by decide) (by decide) (by decide) ?_
  intro v2 T2 L2 X2 q2
  obtain ⟨rfl, Nq2, eq2⟩ := q2
  have N2 := Fr.app N1 Nq2
  show Go p e below s _ _ _ T2 (mkF m 17 #[.val (.ref a), .val (.int (1 : Int32)), .val (.long xx), .second, .val (.int l1), .val (.int l2), .val (.int l3), .val (.int l4)] [(.long (R12 (R12 (R12 (((1 : Int32) + (l1 &&& (65535 : Int32))).toInt64 * (xx + ((l1.toUInt32 >>> ((16 : Int32) &&& 31).toUInt32).toInt32 &&& (32767 : Int32)).toInt64)) (((1 : Int32) + (l2 &&& (65535 : Int32))).toInt64 * (xx + ((l2.toUInt32 >>> ((16 : Int32) &&& 31).toUInt32).toInt32 &&& (32767 : Int32)).toInt64))) (((1 : Int32) + (l3 &&& (65535 : Int32))).toInt64 * (xx + ((l3.toUInt32 >>> ((16 : Int32) &&& 31).toUInt32).toInt32 &&& (32767 : Int32)).toInt64))) (((1 : Int32) + (l4 &&& (65535 : Int32))).toInt64 * (xx + ((l4.toUInt32 >>> ((16 : Int32) &&& 31).toUInt32).toInt32 &&& (32767 : Int32)).toInt64)))), (.double rv_1)])
  refine wl2d C X2 f7_17 ?_
  refine wdcmp C X2 f7_18 (v := (cmpValue (FP.dcmp rv_1 (FP.l2d (R12 (R12 (R12 (((1 : Int32) + (l1 &&& (65535 : Int32))).toInt64 * (xx + ((l1.toUInt32 >>> ((16 : Int32) &&& 31).toUInt32).toInt32 &&& (32767 : Int32)).toInt64)) (((1 : Int32) + (l2 &&& (65535 : Int32))).toInt64 * (xx + ((l2.toUInt32 >>> ((16 : Int32) &&& 31).toUInt32).toInt32 &&& (32767 : Int32)).toInt64))) (((1 : Int32) + (l3 &&& (65535 : Int32))).toInt64 * (xx + ((l3.toUInt32 >>> ((16 : Int32) &&& 31).toUInt32).toInt32 &&& (32767 : Int32)).toInt64))) (((1 : Int32) + (l4 &&& (65535 : Int32))).toInt64 * (xx + ((l4.toUInt32 >>> ((16 : Int32) &&& 31).toUInt32).toInt32 &&& (32767 : Int32)).toInt64))))) .l)) rfl ?_
  refine wif_ne C X2 f7_19 ?_ (fun q => absurd ((own_eq G1_0 (own_l2d hB) _).mpr hE) q)
  intro _
  refine wiconst C X2 f7_22 (1 : Int32) rfl ?_
  refine wgoto C X2 f7_23 ?_
  refine wiretN C X2 (t := .boolean) (by simp) f7_27 rfl (1 : Int32) (by decide) (by decide) (by decide) ?_
  rw [eq2]
  exact ⟨rfl, N2, rfl⟩
theorem ef_7_3_0 (m : MethodId) (a : Addr) (ix : Int32) (xx : Int64) (l1 : Int32) (l2 : Int32) (l3 : Int32) (l4 : Int32) : entryFrame m #[(.ref a), (.int ix), (.long xx), (.int l1), (.int l2), (.int l3), (.int l4)] 8 = mkF m 0 #[.val (.ref a), .val (.int ix), .val (.long xx), .second, .val (.int l1), .val (.int l2), .val (.int l3), .val (.int l4)] [] := by first | (simp [entryFrame, mkF, argsToLocals, Value.category]; done) | rfl
def Q7_3_0 (Z : State) (a : Addr) (ix : Int32) (xx : Int64) (l1 : Int32) (l2 : Int32) (l3 : Int32) (l4 : Int32) (ph : Addr) (pl : Addr) (k1 : ClassId) (k2 : ClassId) (hp : List Value) (ls : List Value) (P : Nat → Int) (W : Nat → Int) (D : Nat → Int) (h0 : Heap) (n0 : Nat) (v9 : Option Value) (h9 : Heap) (L9 : List Loc) : Prop := v9 = some (.int (1 : Int32)) ∧ Fr n0 L9 ∧ h9 = h0
set_option maxRecDepth 65536 in
set_option maxHeartbeats 40000000 in
theorem rm7_3_0 (l : Launch) (Z : State) (a0 : Array Value) (hw : ∀ d ∈ tables_1, d.before a0 Z = true) (ws : List Jvm.Cond) (a : Addr) (ix : Int32) (xx : Int64) (l1 : Int32) (l2 : Int32) (l3 : Int32) (l4 : Int32) (ph : Addr) (pl : Addr) (k1 : ClassId) (k2 : ClassId) (hp : List Value) (ls : List Value) (P : Nat → Int) (W : Nat → Int) (D : Nat → Int) (h0 : Heap) (n0 : Nat) (Z0 : n0 ≤ h0.size) (Exa_0 : Exa Z h0 a "com/example/arbor_center/arborcenter/objective/UpperEnvelope") (Fld_1 : Fld Z h0 a "com/example/arbor_center/arborcenter/objective/UpperEnvelope" "halfPoints" "[D" (.ref ph)) (Fld_2 : Fld Z h0 a "com/example/arbor_center/arborcenter/objective/UpperEnvelope" "count" "I" (.int (3 : Int32))) (Fld_3 : Fld Z h0 a "com/example/arbor_center/arborcenter/objective/UpperEnvelope" "lines" "[D" (.ref pl)) (Arv_4 : Arv Z h0 ph k1 .double (4 : Int32) hp (.double (0 : UInt64))) (Arv_5 : Arv Z h0 pl k2 .double (14 : Int32) ls (.double (0 : UInt64))) (hix : (ix = (0 : Int32))) (hL : (own_Ls ls W D)) (hP : (own_Ps hp P 3)) (hE : (own_pm 3 0 0 (3 - 1) W D (P 0) 0 = (R12 (R12 (R12 (((1 : Int32) + (l1 &&& (65535 : Int32))).toInt64 * (xx + ((l1.toUInt32 >>> ((16 : Int32) &&& 31).toUInt32).toInt32 &&& (32767 : Int32)).toInt64)) (((1 : Int32) + (l2 &&& (65535 : Int32))).toInt64 * (xx + ((l2.toUInt32 >>> ((16 : Int32) &&& 31).toUInt32).toInt32 &&& (32767 : Int32)).toInt64))) (((1 : Int32) + (l3 &&& (65535 : Int32))).toInt64 * (xx + ((l3.toUInt32 >>> ((16 : Int32) &&& 31).toUInt32).toInt32 &&& (32767 : Int32)).toInt64))) (((1 : Int32) + (l4 &&& (65535 : Int32))).toInt64 * (xx + ((l4.toUInt32 >>> ((16 : Int32) &&& 31).toUInt32).toInt32 &&& (32767 : Int32)).toInt64))).toInt)) (hB : ((R12 (R12 (R12 (((1 : Int32) + (l1 &&& (65535 : Int32))).toInt64 * (xx + ((l1.toUInt32 >>> ((16 : Int32) &&& 31).toUInt32).toInt32 &&& (32767 : Int32)).toInt64)) (((1 : Int32) + (l2 &&& (65535 : Int32))).toInt64 * (xx + ((l2.toUInt32 >>> ((16 : Int32) &&& 31).toUInt32).toInt32 &&& (32767 : Int32)).toInt64))) (((1 : Int32) + (l3 &&& (65535 : Int32))).toInt64 * (xx + ((l3.toUInt32 >>> ((16 : Int32) &&& 31).toUInt32).toInt32 &&& (32767 : Int32)).toInt64))) (((1 : Int32) + (l4 &&& (65535 : Int32))).toInt64 * (xx + ((l4.toUInt32 >>> ((16 : Int32) &&& 31).toUInt32).toInt32 &&& (32767 : Int32)).toInt64))).toInt.natAbs ≤ 2 ^ 53)) :
    MetFree l (⟨"com/example/arbor_center/arborcenter/objective/UpperEnvelopeAddPinLaw", "check", "(Lcom/example/arbor_center/arborcenter/objective/UpperEnvelope;IJIIII)Z"⟩ : MethodName) (head1 (Jvm.Cond.code (⟨"com/example/arbor_center/arborcenter/objective/UpperEnvelopeAddPinLaw", "check", "(Lcom/example/arbor_center/arborcenter/objective/UpperEnvelope;IJIIII)Z"⟩ : MethodName) method_7_code 8 (some .boolean) :: ws) ({ frames := 3, cells := 0, slots := 0, locals := 53 } : Room)) (fun A9 U9 => A9 = #[(.ref a), (.int ix), (.long xx), (.int l1), (.int l2), (.int l3), (.int l4)] ∧ Z.Warmed39 U9.vm ∧ U9.heap = h0) (fun _ _ _ _ _ => True) (fun _ U9 o9 V9 => ∃ v9 L9, o9 = .returned v9 ∧ (Q7_3_0 Z a ix xx l1 l2 l3 l4 ph pl k1 k2 hp ls P W D h0 n0) v9 V9.heap L9 ∧ FrameEnd U9 o9 V9 L9 ({ frames := 3, cells := 0, slots := 0, locals := 53 } : Room).cells ({ frames := 3, cells := 0, slots := 0, locals := 53 } : Room).slots) := by
  refine met_of (Q := (Q7_3_0 Z a ix xx l1 l2 l3 l4 ph pl k1 k2 hp ls P W D h0 n0)) pn_7 ?_
  intro p e s m below meth c T0 C X0 e0
  have N0 := Fr.nil n0
  refine Go.cast (ef_7_3_0 m a ix xx l1 l2 l3 l4) ?_
  subst hix
  refine waloadN C X0 f7_0 rfl rfl ?_
  refine wiloadN C X0 f7_1 rfl ?_
  refine wvirtual C X0 (y := (⟨"com/example/arbor_center/arborcenter/objective/UpperEnvelope", "at", "(I)D"⟩ : MethodName)) (z := (⟨"com/example/arbor_center/arborcenter/objective/UpperEnvelope", "at", "(I)D"⟩ : MethodName)) (tw_38 hw) (tw_39 hw) (notFace_of_selects (args := #[]) (mvT C.2.1 (tw_41 hw))) (tw_41 hw) (tw_40 hw) (tw_42 hw) (tw_3 hw) (by decide) (rm8_3_0 l Z a0 hw [] a (0 : Int32) ph pl k1 k2 hp ls P W D h0 n0 Z0 Fld_1 Fld_2 Fld_3 Arv_4 Arv_5 rfl hL hP) e0 (a := a) Exa_0 f7_2 (argsL := [(.int (0 : Int32))]) (rest := []) rfl rfl (lenOf pd_3 rfl) rfl (W := 0) (Nat.le_of_eq rfl) (by decide) (by decide) (by decide) (by decide) ?_
  intro v1 T1 L1 X1 q1
  obtain ⟨rv_1, rfl, Nq1, eq1, G1_0⟩ := q1
  have N1 := Fr.app N0 Nq1
  show Go p e below s _ _ _ T1 (mkF m 5 #[.val (.ref a), .val (.int (0 : Int32)), .val (.long xx), .second, .val (.int l1), .val (.int l2), .val (.int l3), .val (.int l4)] [(.double rv_1)])
  refine wlloadN C X1 f7_5 rfl ?_
  refine wiload C X1 f7_6 rfl ?_
  refine wiload C X1 f7_8 rfl ?_
  refine wiload C X1 f7_10 rfl ?_
  refine wiload C X1 f7_12 rfl ?_
  refine wstatic C X1 (y := (⟨"com/example/arbor_center/arborcenter/objective/UpperEnvelopeAddPinLaw", "best", "(JIIII)J"⟩ : MethodName)) (tw_47 hw) (tw_48 hw) (tw_24 hw) (tw_49 hw) (by decide) (rm10 l Z a0 hw [] xx l1 l2 l3 l4 h0 n0 Z0) eq1 f7_14 (argsL := [(.long xx), (.int l1), (.int l2), (.int l3), (.int l4)]) (rest := [(.double rv_1)]) rfl rfl (lenOf pd_4 rfl) rfl (W := 2) (Nat.le_of_eq rfl) (by decide) (by decide) (by decide) (by decide) ?_
  intro v2 T2 L2 X2 q2
  obtain ⟨rfl, Nq2, eq2⟩ := q2
  have N2 := Fr.app N1 Nq2
  show Go p e below s _ _ _ T2 (mkF m 17 #[.val (.ref a), .val (.int (0 : Int32)), .val (.long xx), .second, .val (.int l1), .val (.int l2), .val (.int l3), .val (.int l4)] [(.long (R12 (R12 (R12 (((1 : Int32) + (l1 &&& (65535 : Int32))).toInt64 * (xx + ((l1.toUInt32 >>> ((16 : Int32) &&& 31).toUInt32).toInt32 &&& (32767 : Int32)).toInt64)) (((1 : Int32) + (l2 &&& (65535 : Int32))).toInt64 * (xx + ((l2.toUInt32 >>> ((16 : Int32) &&& 31).toUInt32).toInt32 &&& (32767 : Int32)).toInt64))) (((1 : Int32) + (l3 &&& (65535 : Int32))).toInt64 * (xx + ((l3.toUInt32 >>> ((16 : Int32) &&& 31).toUInt32).toInt32 &&& (32767 : Int32)).toInt64))) (((1 : Int32) + (l4 &&& (65535 : Int32))).toInt64 * (xx + ((l4.toUInt32 >>> ((16 : Int32) &&& 31).toUInt32).toInt32 &&& (32767 : Int32)).toInt64)))), (.double rv_1)])
  refine wl2d C X2 f7_17 ?_
  refine wdcmp C X2 f7_18 (v := (cmpValue (FP.dcmp rv_1 (FP.l2d (R12 (R12 (R12 (((1 : Int32) + (l1 &&& (65535 : Int32))).toInt64 * (xx + ((l1.toUInt32 >>> ((16 : Int32) &&& 31).toUInt32).toInt32 &&& (32767 : Int32)).toInt64)) (((1 : Int32) + (l2 &&& (65535 : Int32))).toInt64 * (xx + ((l2.toUInt32 >>> ((16 : Int32) &&& 31).toUInt32).toInt32 &&& (32767 : Int32)).toInt64))) (((1 : Int32) + (l3 &&& (65535 : Int32))).toInt64 * (xx + ((l3.toUInt32 >>> ((16 : Int32) &&& 31).toUInt32).toInt32 &&& (32767 : Int32)).toInt64))) (((1 : Int32) + (l4 &&& (65535 : Int32))).toInt64 * (xx + ((l4.toUInt32 >>> ((16 : Int32) &&& 31).toUInt32).toInt32 &&& (32767 : Int32)).toInt64))))) .l)) rfl ?_
  refine wif_ne C X2 f7_19 ?_ (fun q => absurd ((own_eq G1_0 (own_l2d hB) _).mpr hE) q)
  intro _
  refine wiconst C X2 f7_22 (1 : Int32) rfl ?_
  refine wgoto C X2 f7_23 ?_
  refine wiretN C X2 (t := .boolean) (by simp) f7_27 rfl (1 : Int32) (by decide) (by decide) (by decide) ?_
  rw [eq2]
  exact ⟨rfl, N2, rfl⟩
theorem ef_7_3_1 (m : MethodId) (a : Addr) (ix : Int32) (xx : Int64) (l1 : Int32) (l2 : Int32) (l3 : Int32) (l4 : Int32) : entryFrame m #[(.ref a), (.int ix), (.long xx), (.int l1), (.int l2), (.int l3), (.int l4)] 8 = mkF m 0 #[.val (.ref a), .val (.int ix), .val (.long xx), .second, .val (.int l1), .val (.int l2), .val (.int l3), .val (.int l4)] [] := by first | (simp [entryFrame, mkF, argsToLocals, Value.category]; done) | rfl
def Q7_3_1 (Z : State) (a : Addr) (ix : Int32) (xx : Int64) (l1 : Int32) (l2 : Int32) (l3 : Int32) (l4 : Int32) (ph : Addr) (pl : Addr) (k1 : ClassId) (k2 : ClassId) (hp : List Value) (ls : List Value) (P : Nat → Int) (W : Nat → Int) (D : Nat → Int) (h0 : Heap) (n0 : Nat) (v9 : Option Value) (h9 : Heap) (L9 : List Loc) : Prop := v9 = some (.int (1 : Int32)) ∧ Fr n0 L9 ∧ h9 = h0
set_option maxRecDepth 65536 in
set_option maxHeartbeats 40000000 in
theorem rm7_3_1 (l : Launch) (Z : State) (a0 : Array Value) (hw : ∀ d ∈ tables_1, d.before a0 Z = true) (ws : List Jvm.Cond) (a : Addr) (ix : Int32) (xx : Int64) (l1 : Int32) (l2 : Int32) (l3 : Int32) (l4 : Int32) (ph : Addr) (pl : Addr) (k1 : ClassId) (k2 : ClassId) (hp : List Value) (ls : List Value) (P : Nat → Int) (W : Nat → Int) (D : Nat → Int) (h0 : Heap) (n0 : Nat) (Z0 : n0 ≤ h0.size) (Exa_0 : Exa Z h0 a "com/example/arbor_center/arborcenter/objective/UpperEnvelope") (Fld_1 : Fld Z h0 a "com/example/arbor_center/arborcenter/objective/UpperEnvelope" "halfPoints" "[D" (.ref ph)) (Fld_2 : Fld Z h0 a "com/example/arbor_center/arborcenter/objective/UpperEnvelope" "count" "I" (.int (3 : Int32))) (Fld_3 : Fld Z h0 a "com/example/arbor_center/arborcenter/objective/UpperEnvelope" "lines" "[D" (.ref pl)) (Arv_4 : Arv Z h0 ph k1 .double (4 : Int32) hp (.double (0 : UInt64))) (Arv_5 : Arv Z h0 pl k2 .double (14 : Int32) ls (.double (0 : UInt64))) (hix : (ix = (1 : Int32))) (hL : (own_Ls ls W D)) (hP : (own_Ps hp P 3)) (hE : (own_pm 3 0 0 (3 - 1) W D (P 1) 1 = (R12 (R12 (R12 (((1 : Int32) + (l1 &&& (65535 : Int32))).toInt64 * (xx + ((l1.toUInt32 >>> ((16 : Int32) &&& 31).toUInt32).toInt32 &&& (32767 : Int32)).toInt64)) (((1 : Int32) + (l2 &&& (65535 : Int32))).toInt64 * (xx + ((l2.toUInt32 >>> ((16 : Int32) &&& 31).toUInt32).toInt32 &&& (32767 : Int32)).toInt64))) (((1 : Int32) + (l3 &&& (65535 : Int32))).toInt64 * (xx + ((l3.toUInt32 >>> ((16 : Int32) &&& 31).toUInt32).toInt32 &&& (32767 : Int32)).toInt64))) (((1 : Int32) + (l4 &&& (65535 : Int32))).toInt64 * (xx + ((l4.toUInt32 >>> ((16 : Int32) &&& 31).toUInt32).toInt32 &&& (32767 : Int32)).toInt64))).toInt)) (hB : ((R12 (R12 (R12 (((1 : Int32) + (l1 &&& (65535 : Int32))).toInt64 * (xx + ((l1.toUInt32 >>> ((16 : Int32) &&& 31).toUInt32).toInt32 &&& (32767 : Int32)).toInt64)) (((1 : Int32) + (l2 &&& (65535 : Int32))).toInt64 * (xx + ((l2.toUInt32 >>> ((16 : Int32) &&& 31).toUInt32).toInt32 &&& (32767 : Int32)).toInt64))) (((1 : Int32) + (l3 &&& (65535 : Int32))).toInt64 * (xx + ((l3.toUInt32 >>> ((16 : Int32) &&& 31).toUInt32).toInt32 &&& (32767 : Int32)).toInt64))) (((1 : Int32) + (l4 &&& (65535 : Int32))).toInt64 * (xx + ((l4.toUInt32 >>> ((16 : Int32) &&& 31).toUInt32).toInt32 &&& (32767 : Int32)).toInt64))).toInt.natAbs ≤ 2 ^ 53)) :
    MetFree l (⟨"com/example/arbor_center/arborcenter/objective/UpperEnvelopeAddPinLaw", "check", "(Lcom/example/arbor_center/arborcenter/objective/UpperEnvelope;IJIIII)Z"⟩ : MethodName) (head1 (Jvm.Cond.code (⟨"com/example/arbor_center/arborcenter/objective/UpperEnvelopeAddPinLaw", "check", "(Lcom/example/arbor_center/arborcenter/objective/UpperEnvelope;IJIIII)Z"⟩ : MethodName) method_7_code 8 (some .boolean) :: ws) ({ frames := 3, cells := 0, slots := 0, locals := 53 } : Room)) (fun A9 U9 => A9 = #[(.ref a), (.int ix), (.long xx), (.int l1), (.int l2), (.int l3), (.int l4)] ∧ Z.Warmed39 U9.vm ∧ U9.heap = h0) (fun _ _ _ _ _ => True) (fun _ U9 o9 V9 => ∃ v9 L9, o9 = .returned v9 ∧ (Q7_3_1 Z a ix xx l1 l2 l3 l4 ph pl k1 k2 hp ls P W D h0 n0) v9 V9.heap L9 ∧ FrameEnd U9 o9 V9 L9 ({ frames := 3, cells := 0, slots := 0, locals := 53 } : Room).cells ({ frames := 3, cells := 0, slots := 0, locals := 53 } : Room).slots) := by
  refine met_of (Q := (Q7_3_1 Z a ix xx l1 l2 l3 l4 ph pl k1 k2 hp ls P W D h0 n0)) pn_7 ?_
  intro p e s m below meth c T0 C X0 e0
  have N0 := Fr.nil n0
  refine Go.cast (ef_7_3_1 m a ix xx l1 l2 l3 l4) ?_
  subst hix
  refine waloadN C X0 f7_0 rfl rfl ?_
  refine wiloadN C X0 f7_1 rfl ?_
  refine wvirtual C X0 (y := (⟨"com/example/arbor_center/arborcenter/objective/UpperEnvelope", "at", "(I)D"⟩ : MethodName)) (z := (⟨"com/example/arbor_center/arborcenter/objective/UpperEnvelope", "at", "(I)D"⟩ : MethodName)) (tw_38 hw) (tw_39 hw) (notFace_of_selects (args := #[]) (mvT C.2.1 (tw_41 hw))) (tw_41 hw) (tw_40 hw) (tw_42 hw) (tw_3 hw) (by decide) (rm8_3_1 l Z a0 hw [] a (1 : Int32) ph pl k1 k2 hp ls P W D h0 n0 Z0 Fld_1 Fld_2 Fld_3 Arv_4 Arv_5 rfl hL hP) e0 (a := a) Exa_0 f7_2 (argsL := [(.int (1 : Int32))]) (rest := []) rfl rfl (lenOf pd_3 rfl) rfl (W := 0) (Nat.le_of_eq rfl) (by decide) (by decide) (by decide) (by decide) ?_
  intro v1 T1 L1 X1 q1
  obtain ⟨rv_1, rfl, Nq1, eq1, G1_0⟩ := q1
  have N1 := Fr.app N0 Nq1
  show Go p e below s _ _ _ T1 (mkF m 5 #[.val (.ref a), .val (.int (1 : Int32)), .val (.long xx), .second, .val (.int l1), .val (.int l2), .val (.int l3), .val (.int l4)] [(.double rv_1)])
  refine wlloadN C X1 f7_5 rfl ?_
  refine wiload C X1 f7_6 rfl ?_
  refine wiload C X1 f7_8 rfl ?_
  refine wiload C X1 f7_10 rfl ?_
  refine wiload C X1 f7_12 rfl ?_
  refine wstatic C X1 (y := (⟨"com/example/arbor_center/arborcenter/objective/UpperEnvelopeAddPinLaw", "best", "(JIIII)J"⟩ : MethodName)) (tw_47 hw) (tw_48 hw) (tw_24 hw) (tw_49 hw) (by decide) (rm10 l Z a0 hw [] xx l1 l2 l3 l4 h0 n0 Z0) eq1 f7_14 (argsL := [(.long xx), (.int l1), (.int l2), (.int l3), (.int l4)]) (rest := [(.double rv_1)]) rfl rfl (lenOf pd_4 rfl) rfl (W := 2) (Nat.le_of_eq rfl) (by decide) (by decide) (by decide) (by decide) ?_
  intro v2 T2 L2 X2 q2
  obtain ⟨rfl, Nq2, eq2⟩ := q2
  have N2 := Fr.app N1 Nq2
  show Go p e below s _ _ _ T2 (mkF m 17 #[.val (.ref a), .val (.int (1 : Int32)), .val (.long xx), .second, .val (.int l1), .val (.int l2), .val (.int l3), .val (.int l4)] [(.long (R12 (R12 (R12 (((1 : Int32) + (l1 &&& (65535 : Int32))).toInt64 * (xx + ((l1.toUInt32 >>> ((16 : Int32) &&& 31).toUInt32).toInt32 &&& (32767 : Int32)).toInt64)) (((1 : Int32) + (l2 &&& (65535 : Int32))).toInt64 * (xx + ((l2.toUInt32 >>> ((16 : Int32) &&& 31).toUInt32).toInt32 &&& (32767 : Int32)).toInt64))) (((1 : Int32) + (l3 &&& (65535 : Int32))).toInt64 * (xx + ((l3.toUInt32 >>> ((16 : Int32) &&& 31).toUInt32).toInt32 &&& (32767 : Int32)).toInt64))) (((1 : Int32) + (l4 &&& (65535 : Int32))).toInt64 * (xx + ((l4.toUInt32 >>> ((16 : Int32) &&& 31).toUInt32).toInt32 &&& (32767 : Int32)).toInt64)))), (.double rv_1)])
  refine wl2d C X2 f7_17 ?_
  refine wdcmp C X2 f7_18 (v := (cmpValue (FP.dcmp rv_1 (FP.l2d (R12 (R12 (R12 (((1 : Int32) + (l1 &&& (65535 : Int32))).toInt64 * (xx + ((l1.toUInt32 >>> ((16 : Int32) &&& 31).toUInt32).toInt32 &&& (32767 : Int32)).toInt64)) (((1 : Int32) + (l2 &&& (65535 : Int32))).toInt64 * (xx + ((l2.toUInt32 >>> ((16 : Int32) &&& 31).toUInt32).toInt32 &&& (32767 : Int32)).toInt64))) (((1 : Int32) + (l3 &&& (65535 : Int32))).toInt64 * (xx + ((l3.toUInt32 >>> ((16 : Int32) &&& 31).toUInt32).toInt32 &&& (32767 : Int32)).toInt64))) (((1 : Int32) + (l4 &&& (65535 : Int32))).toInt64 * (xx + ((l4.toUInt32 >>> ((16 : Int32) &&& 31).toUInt32).toInt32 &&& (32767 : Int32)).toInt64))))) .l)) rfl ?_
  refine wif_ne C X2 f7_19 ?_ (fun q => absurd ((own_eq G1_0 (own_l2d hB) _).mpr hE) q)
  intro _
  refine wiconst C X2 f7_22 (1 : Int32) rfl ?_
  refine wgoto C X2 f7_23 ?_
  refine wiretN C X2 (t := .boolean) (by simp) f7_27 rfl (1 : Int32) (by decide) (by decide) (by decide) ?_
  rw [eq2]
  exact ⟨rfl, N2, rfl⟩
theorem ef_7_3_2 (m : MethodId) (a : Addr) (ix : Int32) (xx : Int64) (l1 : Int32) (l2 : Int32) (l3 : Int32) (l4 : Int32) : entryFrame m #[(.ref a), (.int ix), (.long xx), (.int l1), (.int l2), (.int l3), (.int l4)] 8 = mkF m 0 #[.val (.ref a), .val (.int ix), .val (.long xx), .second, .val (.int l1), .val (.int l2), .val (.int l3), .val (.int l4)] [] := by first | (simp [entryFrame, mkF, argsToLocals, Value.category]; done) | rfl
def Q7_3_2 (Z : State) (a : Addr) (ix : Int32) (xx : Int64) (l1 : Int32) (l2 : Int32) (l3 : Int32) (l4 : Int32) (ph : Addr) (pl : Addr) (k1 : ClassId) (k2 : ClassId) (hp : List Value) (ls : List Value) (P : Nat → Int) (W : Nat → Int) (D : Nat → Int) (h0 : Heap) (n0 : Nat) (v9 : Option Value) (h9 : Heap) (L9 : List Loc) : Prop := v9 = some (.int (1 : Int32)) ∧ Fr n0 L9 ∧ h9 = h0
set_option maxRecDepth 65536 in
set_option maxHeartbeats 40000000 in
theorem rm7_3_2 (l : Launch) (Z : State) (a0 : Array Value) (hw : ∀ d ∈ tables_1, d.before a0 Z = true) (ws : List Jvm.Cond) (a : Addr) (ix : Int32) (xx : Int64) (l1 : Int32) (l2 : Int32) (l3 : Int32) (l4 : Int32) (ph : Addr) (pl : Addr) (k1 : ClassId) (k2 : ClassId) (hp : List Value) (ls : List Value) (P : Nat → Int) (W : Nat → Int) (D : Nat → Int) (h0 : Heap) (n0 : Nat) (Z0 : n0 ≤ h0.size) (Exa_0 : Exa Z h0 a "com/example/arbor_center/arborcenter/objective/UpperEnvelope") (Fld_1 : Fld Z h0 a "com/example/arbor_center/arborcenter/objective/UpperEnvelope" "halfPoints" "[D" (.ref ph)) (Fld_2 : Fld Z h0 a "com/example/arbor_center/arborcenter/objective/UpperEnvelope" "count" "I" (.int (3 : Int32))) (Fld_3 : Fld Z h0 a "com/example/arbor_center/arborcenter/objective/UpperEnvelope" "lines" "[D" (.ref pl)) (Arv_4 : Arv Z h0 ph k1 .double (4 : Int32) hp (.double (0 : UInt64))) (Arv_5 : Arv Z h0 pl k2 .double (14 : Int32) ls (.double (0 : UInt64))) (hix : (ix = (2 : Int32))) (hL : (own_Ls ls W D)) (hP : (own_Ps hp P 3)) (hE : (own_pm 3 0 0 (3 - 1) W D (P 2) 2 = (R12 (R12 (R12 (((1 : Int32) + (l1 &&& (65535 : Int32))).toInt64 * (xx + ((l1.toUInt32 >>> ((16 : Int32) &&& 31).toUInt32).toInt32 &&& (32767 : Int32)).toInt64)) (((1 : Int32) + (l2 &&& (65535 : Int32))).toInt64 * (xx + ((l2.toUInt32 >>> ((16 : Int32) &&& 31).toUInt32).toInt32 &&& (32767 : Int32)).toInt64))) (((1 : Int32) + (l3 &&& (65535 : Int32))).toInt64 * (xx + ((l3.toUInt32 >>> ((16 : Int32) &&& 31).toUInt32).toInt32 &&& (32767 : Int32)).toInt64))) (((1 : Int32) + (l4 &&& (65535 : Int32))).toInt64 * (xx + ((l4.toUInt32 >>> ((16 : Int32) &&& 31).toUInt32).toInt32 &&& (32767 : Int32)).toInt64))).toInt)) (hB : ((R12 (R12 (R12 (((1 : Int32) + (l1 &&& (65535 : Int32))).toInt64 * (xx + ((l1.toUInt32 >>> ((16 : Int32) &&& 31).toUInt32).toInt32 &&& (32767 : Int32)).toInt64)) (((1 : Int32) + (l2 &&& (65535 : Int32))).toInt64 * (xx + ((l2.toUInt32 >>> ((16 : Int32) &&& 31).toUInt32).toInt32 &&& (32767 : Int32)).toInt64))) (((1 : Int32) + (l3 &&& (65535 : Int32))).toInt64 * (xx + ((l3.toUInt32 >>> ((16 : Int32) &&& 31).toUInt32).toInt32 &&& (32767 : Int32)).toInt64))) (((1 : Int32) + (l4 &&& (65535 : Int32))).toInt64 * (xx + ((l4.toUInt32 >>> ((16 : Int32) &&& 31).toUInt32).toInt32 &&& (32767 : Int32)).toInt64))).toInt.natAbs ≤ 2 ^ 53)) :
    MetFree l (⟨"com/example/arbor_center/arborcenter/objective/UpperEnvelopeAddPinLaw", "check", "(Lcom/example/arbor_center/arborcenter/objective/UpperEnvelope;IJIIII)Z"⟩ : MethodName) (head1 (Jvm.Cond.code (⟨"com/example/arbor_center/arborcenter/objective/UpperEnvelopeAddPinLaw", "check", "(Lcom/example/arbor_center/arborcenter/objective/UpperEnvelope;IJIIII)Z"⟩ : MethodName) method_7_code 8 (some .boolean) :: ws) ({ frames := 3, cells := 0, slots := 0, locals := 53 } : Room)) (fun A9 U9 => A9 = #[(.ref a), (.int ix), (.long xx), (.int l1), (.int l2), (.int l3), (.int l4)] ∧ Z.Warmed39 U9.vm ∧ U9.heap = h0) (fun _ _ _ _ _ => True) (fun _ U9 o9 V9 => ∃ v9 L9, o9 = .returned v9 ∧ (Q7_3_2 Z a ix xx l1 l2 l3 l4 ph pl k1 k2 hp ls P W D h0 n0) v9 V9.heap L9 ∧ FrameEnd U9 o9 V9 L9 ({ frames := 3, cells := 0, slots := 0, locals := 53 } : Room).cells ({ frames := 3, cells := 0, slots := 0, locals := 53 } : Room).slots) := by
  refine met_of (Q := (Q7_3_2 Z a ix xx l1 l2 l3 l4 ph pl k1 k2 hp ls P W D h0 n0)) pn_7 ?_
  intro p e s m below meth c T0 C X0 e0
  have N0 := Fr.nil n0
  refine Go.cast (ef_7_3_2 m a ix xx l1 l2 l3 l4) ?_
  subst hix
  refine waloadN C X0 f7_0 rfl rfl ?_
  refine wiloadN C X0 f7_1 rfl ?_
  refine wvirtual C X0 (y := (⟨"com/example/arbor_center/arborcenter/objective/UpperEnvelope", "at", "(I)D"⟩ : MethodName)) (z := (⟨"com/example/arbor_center/arborcenter/objective/UpperEnvelope", "at", "(I)D"⟩ : MethodName)) (tw_38 hw) (tw_39 hw) (notFace_of_selects (args := #[]) (mvT C.2.1 (tw_41 hw))) (tw_41 hw) (tw_40 hw) (tw_42 hw) (tw_3 hw) (by decide) (rm8_3_2 l Z a0 hw [] a (2 : Int32) ph pl k1 k2 hp ls P W D h0 n0 Z0 Fld_1 Fld_2 Fld_3 Arv_4 Arv_5 rfl hL hP) e0 (a := a) Exa_0 f7_2 (argsL := [(.int (2 : Int32))]) (rest := []) rfl rfl (lenOf pd_3 rfl) rfl (W := 0) (Nat.le_of_eq rfl) (by decide) (by decide) (by decide) (by decide) ?_
  intro v1 T1 L1 X1 q1
  obtain ⟨rv_1, rfl, Nq1, eq1, G1_0⟩ := q1
  have N1 := Fr.app N0 Nq1
  show Go p e below s _ _ _ T1 (mkF m 5 #[.val (.ref a), .val (.int (2 : Int32)), .val (.long xx), .second, .val (.int l1), .val (.int l2), .val (.int l3), .val (.int l4)] [(.double rv_1)])
  refine wlloadN C X1 f7_5 rfl ?_
  refine wiload C X1 f7_6 rfl ?_
  refine wiload C X1 f7_8 rfl ?_
  refine wiload C X1 f7_10 rfl ?_
  refine wiload C X1 f7_12 rfl ?_
  refine wstatic C X1 (y := (⟨"com/example/arbor_center/arborcenter/objective/UpperEnvelopeAddPinLaw", "best", "(JIIII)J"⟩ : MethodName)) (tw_47 hw) (tw_48 hw) (tw_24 hw) (tw_49 hw) (by decide) (rm10 l Z a0 hw [] xx l1 l2 l3 l4 h0 n0 Z0) eq1 f7_14 (argsL := [(.long xx), (.int l1), (.int l2), (.int l3), (.int l4)]) (rest := [(.double rv_1)]) rfl rfl (lenOf pd_4 rfl) rfl (W := 2) (Nat.le_of_eq rfl) (by decide) (by decide) (by decide) (by decide) ?_
  intro v2 T2 L2 X2 q2
  obtain ⟨rfl, Nq2, eq2⟩ := q2
  have N2 := Fr.app N1 Nq2
  show Go p e below s _ _ _ T2 (mkF m 17 #[.val (.ref a), .val (.int (2 : Int32)), .val (.long xx), .second, .val (.int l1), .val (.int l2), .val (.int l3), .val (.int l4)] [(.long (R12 (R12 (R12 (((1 : Int32) + (l1 &&& (65535 : Int32))).toInt64 * (xx + ((l1.toUInt32 >>> ((16 : Int32) &&& 31).toUInt32).toInt32 &&& (32767 : Int32)).toInt64)) (((1 : Int32) + (l2 &&& (65535 : Int32))).toInt64 * (xx + ((l2.toUInt32 >>> ((16 : Int32) &&& 31).toUInt32).toInt32 &&& (32767 : Int32)).toInt64))) (((1 : Int32) + (l3 &&& (65535 : Int32))).toInt64 * (xx + ((l3.toUInt32 >>> ((16 : Int32) &&& 31).toUInt32).toInt32 &&& (32767 : Int32)).toInt64))) (((1 : Int32) + (l4 &&& (65535 : Int32))).toInt64 * (xx + ((l4.toUInt32 >>> ((16 : Int32) &&& 31).toUInt32).toInt32 &&& (32767 : Int32)).toInt64)))), (.double rv_1)])
  refine wl2d C X2 f7_17 ?_
  refine wdcmp C X2 f7_18 (v := (cmpValue (FP.dcmp rv_1 (FP.l2d (R12 (R12 (R12 (((1 : Int32) + (l1 &&& (65535 : Int32))).toInt64 * (xx + ((l1.toUInt32 >>> ((16 : Int32) &&& 31).toUInt32).toInt32 &&& (32767 : Int32)).toInt64)) (((1 : Int32) + (l2 &&& (65535 : Int32))).toInt64 * (xx + ((l2.toUInt32 >>> ((16 : Int32) &&& 31).toUInt32).toInt32 &&& (32767 : Int32)).toInt64))) (((1 : Int32) + (l3 &&& (65535 : Int32))).toInt64 * (xx + ((l3.toUInt32 >>> ((16 : Int32) &&& 31).toUInt32).toInt32 &&& (32767 : Int32)).toInt64))) (((1 : Int32) + (l4 &&& (65535 : Int32))).toInt64 * (xx + ((l4.toUInt32 >>> ((16 : Int32) &&& 31).toUInt32).toInt32 &&& (32767 : Int32)).toInt64))))) .l)) rfl ?_
  refine wif_ne C X2 f7_19 ?_ (fun q => absurd ((own_eq G1_0 (own_l2d hB) _).mpr hE) q)
  intro _
  refine wiconst C X2 f7_22 (1 : Int32) rfl ?_
  refine wgoto C X2 f7_23 ?_
  refine wiretN C X2 (t := .boolean) (by simp) f7_27 rfl (1 : Int32) (by decide) (by decide) (by decide) ?_
  rw [eq2]
  exact ⟨rfl, N2, rfl⟩
theorem ef_7_4_0 (m : MethodId) (a : Addr) (ix : Int32) (xx : Int64) (l1 : Int32) (l2 : Int32) (l3 : Int32) (l4 : Int32) : entryFrame m #[(.ref a), (.int ix), (.long xx), (.int l1), (.int l2), (.int l3), (.int l4)] 8 = mkF m 0 #[.val (.ref a), .val (.int ix), .val (.long xx), .second, .val (.int l1), .val (.int l2), .val (.int l3), .val (.int l4)] [] := by first | (simp [entryFrame, mkF, argsToLocals, Value.category]; done) | rfl
def Q7_4_0 (Z : State) (a : Addr) (ix : Int32) (xx : Int64) (l1 : Int32) (l2 : Int32) (l3 : Int32) (l4 : Int32) (ph : Addr) (pl : Addr) (k1 : ClassId) (k2 : ClassId) (hp : List Value) (ls : List Value) (P : Nat → Int) (W : Nat → Int) (D : Nat → Int) (h0 : Heap) (n0 : Nat) (v9 : Option Value) (h9 : Heap) (L9 : List Loc) : Prop := v9 = some (.int (1 : Int32)) ∧ Fr n0 L9 ∧ h9 = h0
set_option maxRecDepth 65536 in
set_option maxHeartbeats 40000000 in
theorem rm7_4_0 (l : Launch) (Z : State) (a0 : Array Value) (hw : ∀ d ∈ tables_1, d.before a0 Z = true) (ws : List Jvm.Cond) (a : Addr) (ix : Int32) (xx : Int64) (l1 : Int32) (l2 : Int32) (l3 : Int32) (l4 : Int32) (ph : Addr) (pl : Addr) (k1 : ClassId) (k2 : ClassId) (hp : List Value) (ls : List Value) (P : Nat → Int) (W : Nat → Int) (D : Nat → Int) (h0 : Heap) (n0 : Nat) (Z0 : n0 ≤ h0.size) (Exa_0 : Exa Z h0 a "com/example/arbor_center/arborcenter/objective/UpperEnvelope") (Fld_1 : Fld Z h0 a "com/example/arbor_center/arborcenter/objective/UpperEnvelope" "halfPoints" "[D" (.ref ph)) (Fld_2 : Fld Z h0 a "com/example/arbor_center/arborcenter/objective/UpperEnvelope" "count" "I" (.int (4 : Int32))) (Fld_3 : Fld Z h0 a "com/example/arbor_center/arborcenter/objective/UpperEnvelope" "lines" "[D" (.ref pl)) (Arv_4 : Arv Z h0 ph k1 .double (4 : Int32) hp (.double (0 : UInt64))) (Arv_5 : Arv Z h0 pl k2 .double (14 : Int32) ls (.double (0 : UInt64))) (hix : (ix = (0 : Int32))) (hL : (own_Ls ls W D)) (hP : (own_Ps hp P 4)) (hE : (own_pm 3 0 0 (4 - 1) W D (P 0) 0 = (R12 (R12 (R12 (((1 : Int32) + (l1 &&& (65535 : Int32))).toInt64 * (xx + ((l1.toUInt32 >>> ((16 : Int32) &&& 31).toUInt32).toInt32 &&& (32767 : Int32)).toInt64)) (((1 : Int32) + (l2 &&& (65535 : Int32))).toInt64 * (xx + ((l2.toUInt32 >>> ((16 : Int32) &&& 31).toUInt32).toInt32 &&& (32767 : Int32)).toInt64))) (((1 : Int32) + (l3 &&& (65535 : Int32))).toInt64 * (xx + ((l3.toUInt32 >>> ((16 : Int32) &&& 31).toUInt32).toInt32 &&& (32767 : Int32)).toInt64))) (((1 : Int32) + (l4 &&& (65535 : Int32))).toInt64 * (xx + ((l4.toUInt32 >>> ((16 : Int32) &&& 31).toUInt32).toInt32 &&& (32767 : Int32)).toInt64))).toInt)) (hB : ((R12 (R12 (R12 (((1 : Int32) + (l1 &&& (65535 : Int32))).toInt64 * (xx + ((l1.toUInt32 >>> ((16 : Int32) &&& 31).toUInt32).toInt32 &&& (32767 : Int32)).toInt64)) (((1 : Int32) + (l2 &&& (65535 : Int32))).toInt64 * (xx + ((l2.toUInt32 >>> ((16 : Int32) &&& 31).toUInt32).toInt32 &&& (32767 : Int32)).toInt64))) (((1 : Int32) + (l3 &&& (65535 : Int32))).toInt64 * (xx + ((l3.toUInt32 >>> ((16 : Int32) &&& 31).toUInt32).toInt32 &&& (32767 : Int32)).toInt64))) (((1 : Int32) + (l4 &&& (65535 : Int32))).toInt64 * (xx + ((l4.toUInt32 >>> ((16 : Int32) &&& 31).toUInt32).toInt32 &&& (32767 : Int32)).toInt64))).toInt.natAbs ≤ 2 ^ 53)) :
    MetFree l (⟨"com/example/arbor_center/arborcenter/objective/UpperEnvelopeAddPinLaw", "check", "(Lcom/example/arbor_center/arborcenter/objective/UpperEnvelope;IJIIII)Z"⟩ : MethodName) (head1 (Jvm.Cond.code (⟨"com/example/arbor_center/arborcenter/objective/UpperEnvelopeAddPinLaw", "check", "(Lcom/example/arbor_center/arborcenter/objective/UpperEnvelope;IJIIII)Z"⟩ : MethodName) method_7_code 8 (some .boolean) :: ws) ({ frames := 3, cells := 0, slots := 0, locals := 53 } : Room)) (fun A9 U9 => A9 = #[(.ref a), (.int ix), (.long xx), (.int l1), (.int l2), (.int l3), (.int l4)] ∧ Z.Warmed39 U9.vm ∧ U9.heap = h0) (fun _ _ _ _ _ => True) (fun _ U9 o9 V9 => ∃ v9 L9, o9 = .returned v9 ∧ (Q7_4_0 Z a ix xx l1 l2 l3 l4 ph pl k1 k2 hp ls P W D h0 n0) v9 V9.heap L9 ∧ FrameEnd U9 o9 V9 L9 ({ frames := 3, cells := 0, slots := 0, locals := 53 } : Room).cells ({ frames := 3, cells := 0, slots := 0, locals := 53 } : Room).slots) := by
  refine met_of (Q := (Q7_4_0 Z a ix xx l1 l2 l3 l4 ph pl k1 k2 hp ls P W D h0 n0)) pn_7 ?_
  intro p e s m below meth c T0 C X0 e0
  have N0 := Fr.nil n0
  refine Go.cast (ef_7_4_0 m a ix xx l1 l2 l3 l4) ?_
  subst hix
  refine waloadN C X0 f7_0 rfl rfl ?_
  refine wiloadN C X0 f7_1 rfl ?_
  refine wvirtual C X0 (y := (⟨"com/example/arbor_center/arborcenter/objective/UpperEnvelope", "at", "(I)D"⟩ : MethodName)) (z := (⟨"com/example/arbor_center/arborcenter/objective/UpperEnvelope", "at", "(I)D"⟩ : MethodName)) (tw_38 hw) (tw_39 hw) (notFace_of_selects (args := #[]) (mvT C.2.1 (tw_41 hw))) (tw_41 hw) (tw_40 hw) (tw_42 hw) (tw_3 hw) (by decide) (rm8_4_0 l Z a0 hw [] a (0 : Int32) ph pl k1 k2 hp ls P W D h0 n0 Z0 Fld_1 Fld_2 Fld_3 Arv_4 Arv_5 rfl hL hP) e0 (a := a) Exa_0 f7_2 (argsL := [(.int (0 : Int32))]) (rest := []) rfl rfl (lenOf pd_3 rfl) rfl (W := 0) (Nat.le_of_eq rfl) (by decide) (by decide) (by decide) (by decide) ?_
  intro v1 T1 L1 X1 q1
  obtain ⟨rv_1, rfl, Nq1, eq1, G1_0⟩ := q1
  have N1 := Fr.app N0 Nq1
  show Go p e below s _ _ _ T1 (mkF m 5 #[.val (.ref a), .val (.int (0 : Int32)), .val (.long xx), .second, .val (.int l1), .val (.int l2), .val (.int l3), .val (.int l4)] [(.double rv_1)])
  refine wlloadN C X1 f7_5 rfl ?_
  refine wiload C X1 f7_6 rfl ?_
  refine wiload C X1 f7_8 rfl ?_
  refine wiload C X1 f7_10 rfl ?_
  refine wiload C X1 f7_12 rfl ?_
  refine wstatic C X1 (y := (⟨"com/example/arbor_center/arborcenter/objective/UpperEnvelopeAddPinLaw", "best", "(JIIII)J"⟩ : MethodName)) (tw_47 hw) (tw_48 hw) (tw_24 hw) (tw_49 hw) (by decide) (rm10 l Z a0 hw [] xx l1 l2 l3 l4 h0 n0 Z0) eq1 f7_14 (argsL := [(.long xx), (.int l1), (.int l2), (.int l3), (.int l4)]) (rest := [(.double rv_1)]) rfl rfl (lenOf pd_4 rfl) rfl (W := 2) (Nat.le_of_eq rfl) (by decide) (by decide) (by decide) (by decide) ?_
  intro v2 T2 L2 X2 q2
  obtain ⟨rfl, Nq2, eq2⟩ := q2
  have N2 := Fr.app N1 Nq2
  show Go p e below s _ _ _ T2 (mkF m 17 #[.val (.ref a), .val (.int (0 : Int32)), .val (.long xx), .second, .val (.int l1), .val (.int l2), .val (.int l3), .val (.int l4)] [(.long (R12 (R12 (R12 (((1 : Int32) + (l1 &&& (65535 : Int32))).toInt64 * (xx + ((l1.toUInt32 >>> ((16 : Int32) &&& 31).toUInt32).toInt32 &&& (32767 : Int32)).toInt64)) (((1 : Int32) + (l2 &&& (65535 : Int32))).toInt64 * (xx + ((l2.toUInt32 >>> ((16 : Int32) &&& 31).toUInt32).toInt32 &&& (32767 : Int32)).toInt64))) (((1 : Int32) + (l3 &&& (65535 : Int32))).toInt64 * (xx + ((l3.toUInt32 >>> ((16 : Int32) &&& 31).toUInt32).toInt32 &&& (32767 : Int32)).toInt64))) (((1 : Int32) + (l4 &&& (65535 : Int32))).toInt64 * (xx + ((l4.toUInt32 >>> ((16 : Int32) &&& 31).toUInt32).toInt32 &&& (32767 : Int32)).toInt64)))), (.double rv_1)])
  refine wl2d C X2 f7_17 ?_
  refine wdcmp C X2 f7_18 (v := (cmpValue (FP.dcmp rv_1 (FP.l2d (R12 (R12 (R12 (((1 : Int32) + (l1 &&& (65535 : Int32))).toInt64 * (xx + ((l1.toUInt32 >>> ((16 : Int32) &&& 31).toUInt32).toInt32 &&& (32767 : Int32)).toInt64)) (((1 : Int32) + (l2 &&& (65535 : Int32))).toInt64 * (xx + ((l2.toUInt32 >>> ((16 : Int32) &&& 31).toUInt32).toInt32 &&& (32767 : Int32)).toInt64))) (((1 : Int32) + (l3 &&& (65535 : Int32))).toInt64 * (xx + ((l3.toUInt32 >>> ((16 : Int32) &&& 31).toUInt32).toInt32 &&& (32767 : Int32)).toInt64))) (((1 : Int32) + (l4 &&& (65535 : Int32))).toInt64 * (xx + ((l4.toUInt32 >>> ((16 : Int32) &&& 31).toUInt32).toInt32 &&& (32767 : Int32)).toInt64))))) .l)) rfl ?_
  refine wif_ne C X2 f7_19 ?_ (fun q => absurd ((own_eq G1_0 (own_l2d hB) _).mpr hE) q)
  intro _
  refine wiconst C X2 f7_22 (1 : Int32) rfl ?_
  refine wgoto C X2 f7_23 ?_
  refine wiretN C X2 (t := .boolean) (by simp) f7_27 rfl (1 : Int32) (by decide) (by decide) (by decide) ?_
  rw [eq2]
  exact ⟨rfl, N2, rfl⟩
theorem ef_7_4_1 (m : MethodId) (a : Addr) (ix : Int32) (xx : Int64) (l1 : Int32) (l2 : Int32) (l3 : Int32) (l4 : Int32) : entryFrame m #[(.ref a), (.int ix), (.long xx), (.int l1), (.int l2), (.int l3), (.int l4)] 8 = mkF m 0 #[.val (.ref a), .val (.int ix), .val (.long xx), .second, .val (.int l1), .val (.int l2), .val (.int l3), .val (.int l4)] [] := by first | (simp [entryFrame, mkF, argsToLocals, Value.category]; done) | rfl
def Q7_4_1 (Z : State) (a : Addr) (ix : Int32) (xx : Int64) (l1 : Int32) (l2 : Int32) (l3 : Int32) (l4 : Int32) (ph : Addr) (pl : Addr) (k1 : ClassId) (k2 : ClassId) (hp : List Value) (ls : List Value) (P : Nat → Int) (W : Nat → Int) (D : Nat → Int) (h0 : Heap) (n0 : Nat) (v9 : Option Value) (h9 : Heap) (L9 : List Loc) : Prop := v9 = some (.int (1 : Int32)) ∧ Fr n0 L9 ∧ h9 = h0
set_option maxRecDepth 65536 in
set_option maxHeartbeats 40000000 in
theorem rm7_4_1 (l : Launch) (Z : State) (a0 : Array Value) (hw : ∀ d ∈ tables_1, d.before a0 Z = true) (ws : List Jvm.Cond) (a : Addr) (ix : Int32) (xx : Int64) (l1 : Int32) (l2 : Int32) (l3 : Int32) (l4 : Int32) (ph : Addr) (pl : Addr) (k1 : ClassId) (k2 : ClassId) (hp : List Value) (ls : List Value) (P : Nat → Int) (W : Nat → Int) (D : Nat → Int) (h0 : Heap) (n0 : Nat) (Z0 : n0 ≤ h0.size) (Exa_0 : Exa Z h0 a "com/example/arbor_center/arborcenter/objective/UpperEnvelope") (Fld_1 : Fld Z h0 a "com/example/arbor_center/arborcenter/objective/UpperEnvelope" "halfPoints" "[D" (.ref ph)) (Fld_2 : Fld Z h0 a "com/example/arbor_center/arborcenter/objective/UpperEnvelope" "count" "I" (.int (4 : Int32))) (Fld_3 : Fld Z h0 a "com/example/arbor_center/arborcenter/objective/UpperEnvelope" "lines" "[D" (.ref pl)) (Arv_4 : Arv Z h0 ph k1 .double (4 : Int32) hp (.double (0 : UInt64))) (Arv_5 : Arv Z h0 pl k2 .double (14 : Int32) ls (.double (0 : UInt64))) (hix : (ix = (1 : Int32))) (hL : (own_Ls ls W D)) (hP : (own_Ps hp P 4)) (hE : (own_pm 3 0 0 (4 - 1) W D (P 1) 1 = (R12 (R12 (R12 (((1 : Int32) + (l1 &&& (65535 : Int32))).toInt64 * (xx + ((l1.toUInt32 >>> ((16 : Int32) &&& 31).toUInt32).toInt32 &&& (32767 : Int32)).toInt64)) (((1 : Int32) + (l2 &&& (65535 : Int32))).toInt64 * (xx + ((l2.toUInt32 >>> ((16 : Int32) &&& 31).toUInt32).toInt32 &&& (32767 : Int32)).toInt64))) (((1 : Int32) + (l3 &&& (65535 : Int32))).toInt64 * (xx + ((l3.toUInt32 >>> ((16 : Int32) &&& 31).toUInt32).toInt32 &&& (32767 : Int32)).toInt64))) (((1 : Int32) + (l4 &&& (65535 : Int32))).toInt64 * (xx + ((l4.toUInt32 >>> ((16 : Int32) &&& 31).toUInt32).toInt32 &&& (32767 : Int32)).toInt64))).toInt)) (hB : ((R12 (R12 (R12 (((1 : Int32) + (l1 &&& (65535 : Int32))).toInt64 * (xx + ((l1.toUInt32 >>> ((16 : Int32) &&& 31).toUInt32).toInt32 &&& (32767 : Int32)).toInt64)) (((1 : Int32) + (l2 &&& (65535 : Int32))).toInt64 * (xx + ((l2.toUInt32 >>> ((16 : Int32) &&& 31).toUInt32).toInt32 &&& (32767 : Int32)).toInt64))) (((1 : Int32) + (l3 &&& (65535 : Int32))).toInt64 * (xx + ((l3.toUInt32 >>> ((16 : Int32) &&& 31).toUInt32).toInt32 &&& (32767 : Int32)).toInt64))) (((1 : Int32) + (l4 &&& (65535 : Int32))).toInt64 * (xx + ((l4.toUInt32 >>> ((16 : Int32) &&& 31).toUInt32).toInt32 &&& (32767 : Int32)).toInt64))).toInt.natAbs ≤ 2 ^ 53)) :
    MetFree l (⟨"com/example/arbor_center/arborcenter/objective/UpperEnvelopeAddPinLaw", "check", "(Lcom/example/arbor_center/arborcenter/objective/UpperEnvelope;IJIIII)Z"⟩ : MethodName) (head1 (Jvm.Cond.code (⟨"com/example/arbor_center/arborcenter/objective/UpperEnvelopeAddPinLaw", "check", "(Lcom/example/arbor_center/arborcenter/objective/UpperEnvelope;IJIIII)Z"⟩ : MethodName) method_7_code 8 (some .boolean) :: ws) ({ frames := 3, cells := 0, slots := 0, locals := 53 } : Room)) (fun A9 U9 => A9 = #[(.ref a), (.int ix), (.long xx), (.int l1), (.int l2), (.int l3), (.int l4)] ∧ Z.Warmed39 U9.vm ∧ U9.heap = h0) (fun _ _ _ _ _ => True) (fun _ U9 o9 V9 => ∃ v9 L9, o9 = .returned v9 ∧ (Q7_4_1 Z a ix xx l1 l2 l3 l4 ph pl k1 k2 hp ls P W D h0 n0) v9 V9.heap L9 ∧ FrameEnd U9 o9 V9 L9 ({ frames := 3, cells := 0, slots := 0, locals := 53 } : Room).cells ({ frames := 3, cells := 0, slots := 0, locals := 53 } : Room).slots) := by
  refine met_of (Q := (Q7_4_1 Z a ix xx l1 l2 l3 l4 ph pl k1 k2 hp ls P W D h0 n0)) pn_7 ?_
  intro p e s m below meth c T0 C X0 e0
  have N0 := Fr.nil n0
  refine Go.cast (ef_7_4_1 m a ix xx l1 l2 l3 l4) ?_
  subst hix
  refine waloadN C X0 f7_0 rfl rfl ?_
  refine wiloadN C X0 f7_1 rfl ?_
  refine wvirtual C X0 (y := (⟨"com/example/arbor_center/arborcenter/objective/UpperEnvelope", "at", "(I)D"⟩ : MethodName)) (z := (⟨"com/example/arbor_center/arborcenter/objective/UpperEnvelope", "at", "(I)D"⟩ : MethodName)) (tw_38 hw) (tw_39 hw) (notFace_of_selects (args := #[]) (mvT C.2.1 (tw_41 hw))) (tw_41 hw) (tw_40 hw) (tw_42 hw) (tw_3 hw) (by decide) (rm8_4_1 l Z a0 hw [] a (1 : Int32) ph pl k1 k2 hp ls P W D h0 n0 Z0 Fld_1 Fld_2 Fld_3 Arv_4 Arv_5 rfl hL hP) e0 (a := a) Exa_0 f7_2 (argsL := [(.int (1 : Int32))]) (rest := []) rfl rfl (lenOf pd_3 rfl) rfl (W := 0) (Nat.le_of_eq rfl) (by decide) (by decide) (by decide) (by decide) ?_
  intro v1 T1 L1 X1 q1
  obtain ⟨rv_1, rfl, Nq1, eq1, G1_0⟩ := q1
  have N1 := Fr.app N0 Nq1
  show Go p e below s _ _ _ T1 (mkF m 5 #[.val (.ref a), .val (.int (1 : Int32)), .val (.long xx), .second, .val (.int l1), .val (.int l2), .val (.int l3), .val (.int l4)] [(.double rv_1)])
  refine wlloadN C X1 f7_5 rfl ?_
  refine wiload C X1 f7_6 rfl ?_
  refine wiload C X1 f7_8 rfl ?_
  refine wiload C X1 f7_10 rfl ?_
  refine wiload C X1 f7_12 rfl ?_
  refine wstatic C X1 (y := (⟨"com/example/arbor_center/arborcenter/objective/UpperEnvelopeAddPinLaw", "best", "(JIIII)J"⟩ : MethodName)) (tw_47 hw) (tw_48 hw) (tw_24 hw) (tw_49 hw) (by decide) (rm10 l Z a0 hw [] xx l1 l2 l3 l4 h0 n0 Z0) eq1 f7_14 (argsL := [(.long xx), (.int l1), (.int l2), (.int l3), (.int l4)]) (rest := [(.double rv_1)]) rfl rfl (lenOf pd_4 rfl) rfl (W := 2) (Nat.le_of_eq rfl) (by decide) (by decide) (by decide) (by decide) ?_
  intro v2 T2 L2 X2 q2
  obtain ⟨rfl, Nq2, eq2⟩ := q2
  have N2 := Fr.app N1 Nq2
  show Go p e below s _ _ _ T2 (mkF m 17 #[.val (.ref a), .val (.int (1 : Int32)), .val (.long xx), .second, .val (.int l1), .val (.int l2), .val (.int l3), .val (.int l4)] [(.long (R12 (R12 (R12 (((1 : Int32) + (l1 &&& (65535 : Int32))).toInt64 * (xx + ((l1.toUInt32 >>> ((16 : Int32) &&& 31).toUInt32).toInt32 &&& (32767 : Int32)).toInt64)) (((1 : Int32) + (l2 &&& (65535 : Int32))).toInt64 * (xx + ((l2.toUInt32 >>> ((16 : Int32) &&& 31).toUInt32).toInt32 &&& (32767 : Int32)).toInt64))) (((1 : Int32) + (l3 &&& (65535 : Int32))).toInt64 * (xx + ((l3.toUInt32 >>> ((16 : Int32) &&& 31).toUInt32).toInt32 &&& (32767 : Int32)).toInt64))) (((1 : Int32) + (l4 &&& (65535 : Int32))).toInt64 * (xx + ((l4.toUInt32 >>> ((16 : Int32) &&& 31).toUInt32).toInt32 &&& (32767 : Int32)).toInt64)))), (.double rv_1)])
  refine wl2d C X2 f7_17 ?_
  refine wdcmp C X2 f7_18 (v := (cmpValue (FP.dcmp rv_1 (FP.l2d (R12 (R12 (R12 (((1 : Int32) + (l1 &&& (65535 : Int32))).toInt64 * (xx + ((l1.toUInt32 >>> ((16 : Int32) &&& 31).toUInt32).toInt32 &&& (32767 : Int32)).toInt64)) (((1 : Int32) + (l2 &&& (65535 : Int32))).toInt64 * (xx + ((l2.toUInt32 >>> ((16 : Int32) &&& 31).toUInt32).toInt32 &&& (32767 : Int32)).toInt64))) (((1 : Int32) + (l3 &&& (65535 : Int32))).toInt64 * (xx + ((l3.toUInt32 >>> ((16 : Int32) &&& 31).toUInt32).toInt32 &&& (32767 : Int32)).toInt64))) (((1 : Int32) + (l4 &&& (65535 : Int32))).toInt64 * (xx + ((l4.toUInt32 >>> ((16 : Int32) &&& 31).toUInt32).toInt32 &&& (32767 : Int32)).toInt64))))) .l)) rfl ?_
  refine wif_ne C X2 f7_19 ?_ (fun q => absurd ((own_eq G1_0 (own_l2d hB) _).mpr hE) q)
  intro _
  refine wiconst C X2 f7_22 (1 : Int32) rfl ?_
  refine wgoto C X2 f7_23 ?_
  refine wiretN C X2 (t := .boolean) (by simp) f7_27 rfl (1 : Int32) (by decide) (by decide) (by decide) ?_
  rw [eq2]
  exact ⟨rfl, N2, rfl⟩
theorem ef_7_4_2 (m : MethodId) (a : Addr) (ix : Int32) (xx : Int64) (l1 : Int32) (l2 : Int32) (l3 : Int32) (l4 : Int32) : entryFrame m #[(.ref a), (.int ix), (.long xx), (.int l1), (.int l2), (.int l3), (.int l4)] 8 = mkF m 0 #[.val (.ref a), .val (.int ix), .val (.long xx), .second, .val (.int l1), .val (.int l2), .val (.int l3), .val (.int l4)] [] := by first | (simp [entryFrame, mkF, argsToLocals, Value.category]; done) | rfl
def Q7_4_2 (Z : State) (a : Addr) (ix : Int32) (xx : Int64) (l1 : Int32) (l2 : Int32) (l3 : Int32) (l4 : Int32) (ph : Addr) (pl : Addr) (k1 : ClassId) (k2 : ClassId) (hp : List Value) (ls : List Value) (P : Nat → Int) (W : Nat → Int) (D : Nat → Int) (h0 : Heap) (n0 : Nat) (v9 : Option Value) (h9 : Heap) (L9 : List Loc) : Prop := v9 = some (.int (1 : Int32)) ∧ Fr n0 L9 ∧ h9 = h0
set_option maxRecDepth 65536 in
set_option maxHeartbeats 40000000 in
theorem rm7_4_2 (l : Launch) (Z : State) (a0 : Array Value) (hw : ∀ d ∈ tables_1, d.before a0 Z = true) (ws : List Jvm.Cond) (a : Addr) (ix : Int32) (xx : Int64) (l1 : Int32) (l2 : Int32) (l3 : Int32) (l4 : Int32) (ph : Addr) (pl : Addr) (k1 : ClassId) (k2 : ClassId) (hp : List Value) (ls : List Value) (P : Nat → Int) (W : Nat → Int) (D : Nat → Int) (h0 : Heap) (n0 : Nat) (Z0 : n0 ≤ h0.size) (Exa_0 : Exa Z h0 a "com/example/arbor_center/arborcenter/objective/UpperEnvelope") (Fld_1 : Fld Z h0 a "com/example/arbor_center/arborcenter/objective/UpperEnvelope" "halfPoints" "[D" (.ref ph)) (Fld_2 : Fld Z h0 a "com/example/arbor_center/arborcenter/objective/UpperEnvelope" "count" "I" (.int (4 : Int32))) (Fld_3 : Fld Z h0 a "com/example/arbor_center/arborcenter/objective/UpperEnvelope" "lines" "[D" (.ref pl)) (Arv_4 : Arv Z h0 ph k1 .double (4 : Int32) hp (.double (0 : UInt64))) (Arv_5 : Arv Z h0 pl k2 .double (14 : Int32) ls (.double (0 : UInt64))) (hix : (ix = (2 : Int32))) (hL : (own_Ls ls W D)) (hP : (own_Ps hp P 4)) (hE : (own_pm 3 0 0 (4 - 1) W D (P 2) 2 = (R12 (R12 (R12 (((1 : Int32) + (l1 &&& (65535 : Int32))).toInt64 * (xx + ((l1.toUInt32 >>> ((16 : Int32) &&& 31).toUInt32).toInt32 &&& (32767 : Int32)).toInt64)) (((1 : Int32) + (l2 &&& (65535 : Int32))).toInt64 * (xx + ((l2.toUInt32 >>> ((16 : Int32) &&& 31).toUInt32).toInt32 &&& (32767 : Int32)).toInt64))) (((1 : Int32) + (l3 &&& (65535 : Int32))).toInt64 * (xx + ((l3.toUInt32 >>> ((16 : Int32) &&& 31).toUInt32).toInt32 &&& (32767 : Int32)).toInt64))) (((1 : Int32) + (l4 &&& (65535 : Int32))).toInt64 * (xx + ((l4.toUInt32 >>> ((16 : Int32) &&& 31).toUInt32).toInt32 &&& (32767 : Int32)).toInt64))).toInt)) (hB : ((R12 (R12 (R12 (((1 : Int32) + (l1 &&& (65535 : Int32))).toInt64 * (xx + ((l1.toUInt32 >>> ((16 : Int32) &&& 31).toUInt32).toInt32 &&& (32767 : Int32)).toInt64)) (((1 : Int32) + (l2 &&& (65535 : Int32))).toInt64 * (xx + ((l2.toUInt32 >>> ((16 : Int32) &&& 31).toUInt32).toInt32 &&& (32767 : Int32)).toInt64))) (((1 : Int32) + (l3 &&& (65535 : Int32))).toInt64 * (xx + ((l3.toUInt32 >>> ((16 : Int32) &&& 31).toUInt32).toInt32 &&& (32767 : Int32)).toInt64))) (((1 : Int32) + (l4 &&& (65535 : Int32))).toInt64 * (xx + ((l4.toUInt32 >>> ((16 : Int32) &&& 31).toUInt32).toInt32 &&& (32767 : Int32)).toInt64))).toInt.natAbs ≤ 2 ^ 53)) :
    MetFree l (⟨"com/example/arbor_center/arborcenter/objective/UpperEnvelopeAddPinLaw", "check", "(Lcom/example/arbor_center/arborcenter/objective/UpperEnvelope;IJIIII)Z"⟩ : MethodName) (head1 (Jvm.Cond.code (⟨"com/example/arbor_center/arborcenter/objective/UpperEnvelopeAddPinLaw", "check", "(Lcom/example/arbor_center/arborcenter/objective/UpperEnvelope;IJIIII)Z"⟩ : MethodName) method_7_code 8 (some .boolean) :: ws) ({ frames := 3, cells := 0, slots := 0, locals := 53 } : Room)) (fun A9 U9 => A9 = #[(.ref a), (.int ix), (.long xx), (.int l1), (.int l2), (.int l3), (.int l4)] ∧ Z.Warmed39 U9.vm ∧ U9.heap = h0) (fun _ _ _ _ _ => True) (fun _ U9 o9 V9 => ∃ v9 L9, o9 = .returned v9 ∧ (Q7_4_2 Z a ix xx l1 l2 l3 l4 ph pl k1 k2 hp ls P W D h0 n0) v9 V9.heap L9 ∧ FrameEnd U9 o9 V9 L9 ({ frames := 3, cells := 0, slots := 0, locals := 53 } : Room).cells ({ frames := 3, cells := 0, slots := 0, locals := 53 } : Room).slots) := by
  refine met_of (Q := (Q7_4_2 Z a ix xx l1 l2 l3 l4 ph pl k1 k2 hp ls P W D h0 n0)) pn_7 ?_
  intro p e s m below meth c T0 C X0 e0
  have N0 := Fr.nil n0
  refine Go.cast (ef_7_4_2 m a ix xx l1 l2 l3 l4) ?_
  subst hix
  refine waloadN C X0 f7_0 rfl rfl ?_
  refine wiloadN C X0 f7_1 rfl ?_
  refine wvirtual C X0 (y := (⟨"com/example/arbor_center/arborcenter/objective/UpperEnvelope", "at", "(I)D"⟩ : MethodName)) (z := (⟨"com/example/arbor_center/arborcenter/objective/UpperEnvelope", "at", "(I)D"⟩ : MethodName)) (tw_38 hw) (tw_39 hw) (notFace_of_selects (args := #[]) (mvT C.2.1 (tw_41 hw))) (tw_41 hw) (tw_40 hw) (tw_42 hw) (tw_3 hw) (by decide) (rm8_4_2 l Z a0 hw [] a (2 : Int32) ph pl k1 k2 hp ls P W D h0 n0 Z0 Fld_1 Fld_2 Fld_3 Arv_4 Arv_5 rfl hL hP) e0 (a := a) Exa_0 f7_2 (argsL := [(.int (2 : Int32))]) (rest := []) rfl rfl (lenOf pd_3 rfl) rfl (W := 0) (Nat.le_of_eq rfl) (by decide) (by decide) (by decide) (by decide) ?_
  intro v1 T1 L1 X1 q1
  obtain ⟨rv_1, rfl, Nq1, eq1, G1_0⟩ := q1
  have N1 := Fr.app N0 Nq1
  show Go p e below s _ _ _ T1 (mkF m 5 #[.val (.ref a), .val (.int (2 : Int32)), .val (.long xx), .second, .val (.int l1), .val (.int l2), .val (.int l3), .val (.int l4)] [(.double rv_1)])
  refine wlloadN C X1 f7_5 rfl ?_
  refine wiload C X1 f7_6 rfl ?_
  refine wiload C X1 f7_8 rfl ?_
  refine wiload C X1 f7_10 rfl ?_
  refine wiload C X1 f7_12 rfl ?_
  refine wstatic C X1 (y := (⟨"com/example/arbor_center/arborcenter/objective/UpperEnvelopeAddPinLaw", "best", "(JIIII)J"⟩ : MethodName)) (tw_47 hw) (tw_48 hw) (tw_24 hw) (tw_49 hw) (by decide) (rm10 l Z a0 hw [] xx l1 l2 l3 l4 h0 n0 Z0) eq1 f7_14 (argsL := [(.long xx), (.int l1), (.int l2), (.int l3), (.int l4)]) (rest := [(.double rv_1)]) rfl rfl (lenOf pd_4 rfl) rfl (W := 2) (Nat.le_of_eq rfl) (by decide) (by decide) (by decide) (by decide) ?_
  intro v2 T2 L2 X2 q2
  obtain ⟨rfl, Nq2, eq2⟩ := q2
  have N2 := Fr.app N1 Nq2
  show Go p e below s _ _ _ T2 (mkF m 17 #[.val (.ref a), .val (.int (2 : Int32)), .val (.long xx), .second, .val (.int l1), .val (.int l2), .val (.int l3), .val (.int l4)] [(.long (R12 (R12 (R12 (((1 : Int32) + (l1 &&& (65535 : Int32))).toInt64 * (xx + ((l1.toUInt32 >>> ((16 : Int32) &&& 31).toUInt32).toInt32 &&& (32767 : Int32)).toInt64)) (((1 : Int32) + (l2 &&& (65535 : Int32))).toInt64 * (xx + ((l2.toUInt32 >>> ((16 : Int32) &&& 31).toUInt32).toInt32 &&& (32767 : Int32)).toInt64))) (((1 : Int32) + (l3 &&& (65535 : Int32))).toInt64 * (xx + ((l3.toUInt32 >>> ((16 : Int32) &&& 31).toUInt32).toInt32 &&& (32767 : Int32)).toInt64))) (((1 : Int32) + (l4 &&& (65535 : Int32))).toInt64 * (xx + ((l4.toUInt32 >>> ((16 : Int32) &&& 31).toUInt32).toInt32 &&& (32767 : Int32)).toInt64)))), (.double rv_1)])
  refine wl2d C X2 f7_17 ?_
  refine wdcmp C X2 f7_18 (v := (cmpValue (FP.dcmp rv_1 (FP.l2d (R12 (R12 (R12 (((1 : Int32) + (l1 &&& (65535 : Int32))).toInt64 * (xx + ((l1.toUInt32 >>> ((16 : Int32) &&& 31).toUInt32).toInt32 &&& (32767 : Int32)).toInt64)) (((1 : Int32) + (l2 &&& (65535 : Int32))).toInt64 * (xx + ((l2.toUInt32 >>> ((16 : Int32) &&& 31).toUInt32).toInt32 &&& (32767 : Int32)).toInt64))) (((1 : Int32) + (l3 &&& (65535 : Int32))).toInt64 * (xx + ((l3.toUInt32 >>> ((16 : Int32) &&& 31).toUInt32).toInt32 &&& (32767 : Int32)).toInt64))) (((1 : Int32) + (l4 &&& (65535 : Int32))).toInt64 * (xx + ((l4.toUInt32 >>> ((16 : Int32) &&& 31).toUInt32).toInt32 &&& (32767 : Int32)).toInt64))))) .l)) rfl ?_
  refine wif_ne C X2 f7_19 ?_ (fun q => absurd ((own_eq G1_0 (own_l2d hB) _).mpr hE) q)
  intro _
  refine wiconst C X2 f7_22 (1 : Int32) rfl ?_
  refine wgoto C X2 f7_23 ?_
  refine wiretN C X2 (t := .boolean) (by simp) f7_27 rfl (1 : Int32) (by decide) (by decide) (by decide) ?_
  rw [eq2]
  exact ⟨rfl, N2, rfl⟩
theorem ef_7_4_3 (m : MethodId) (a : Addr) (ix : Int32) (xx : Int64) (l1 : Int32) (l2 : Int32) (l3 : Int32) (l4 : Int32) : entryFrame m #[(.ref a), (.int ix), (.long xx), (.int l1), (.int l2), (.int l3), (.int l4)] 8 = mkF m 0 #[.val (.ref a), .val (.int ix), .val (.long xx), .second, .val (.int l1), .val (.int l2), .val (.int l3), .val (.int l4)] [] := by first | (simp [entryFrame, mkF, argsToLocals, Value.category]; done) | rfl
def Q7_4_3 (Z : State) (a : Addr) (ix : Int32) (xx : Int64) (l1 : Int32) (l2 : Int32) (l3 : Int32) (l4 : Int32) (ph : Addr) (pl : Addr) (k1 : ClassId) (k2 : ClassId) (hp : List Value) (ls : List Value) (P : Nat → Int) (W : Nat → Int) (D : Nat → Int) (h0 : Heap) (n0 : Nat) (v9 : Option Value) (h9 : Heap) (L9 : List Loc) : Prop := v9 = some (.int (1 : Int32)) ∧ Fr n0 L9 ∧ h9 = h0
set_option maxRecDepth 65536 in
set_option maxHeartbeats 40000000 in
theorem rm7_4_3 (l : Launch) (Z : State) (a0 : Array Value) (hw : ∀ d ∈ tables_1, d.before a0 Z = true) (ws : List Jvm.Cond) (a : Addr) (ix : Int32) (xx : Int64) (l1 : Int32) (l2 : Int32) (l3 : Int32) (l4 : Int32) (ph : Addr) (pl : Addr) (k1 : ClassId) (k2 : ClassId) (hp : List Value) (ls : List Value) (P : Nat → Int) (W : Nat → Int) (D : Nat → Int) (h0 : Heap) (n0 : Nat) (Z0 : n0 ≤ h0.size) (Exa_0 : Exa Z h0 a "com/example/arbor_center/arborcenter/objective/UpperEnvelope") (Fld_1 : Fld Z h0 a "com/example/arbor_center/arborcenter/objective/UpperEnvelope" "halfPoints" "[D" (.ref ph)) (Fld_2 : Fld Z h0 a "com/example/arbor_center/arborcenter/objective/UpperEnvelope" "count" "I" (.int (4 : Int32))) (Fld_3 : Fld Z h0 a "com/example/arbor_center/arborcenter/objective/UpperEnvelope" "lines" "[D" (.ref pl)) (Arv_4 : Arv Z h0 ph k1 .double (4 : Int32) hp (.double (0 : UInt64))) (Arv_5 : Arv Z h0 pl k2 .double (14 : Int32) ls (.double (0 : UInt64))) (hix : (ix = (3 : Int32))) (hL : (own_Ls ls W D)) (hP : (own_Ps hp P 4)) (hE : (own_pm 3 0 0 (4 - 1) W D (P 3) 3 = (R12 (R12 (R12 (((1 : Int32) + (l1 &&& (65535 : Int32))).toInt64 * (xx + ((l1.toUInt32 >>> ((16 : Int32) &&& 31).toUInt32).toInt32 &&& (32767 : Int32)).toInt64)) (((1 : Int32) + (l2 &&& (65535 : Int32))).toInt64 * (xx + ((l2.toUInt32 >>> ((16 : Int32) &&& 31).toUInt32).toInt32 &&& (32767 : Int32)).toInt64))) (((1 : Int32) + (l3 &&& (65535 : Int32))).toInt64 * (xx + ((l3.toUInt32 >>> ((16 : Int32) &&& 31).toUInt32).toInt32 &&& (32767 : Int32)).toInt64))) (((1 : Int32) + (l4 &&& (65535 : Int32))).toInt64 * (xx + ((l4.toUInt32 >>> ((16 : Int32) &&& 31).toUInt32).toInt32 &&& (32767 : Int32)).toInt64))).toInt)) (hB : ((R12 (R12 (R12 (((1 : Int32) + (l1 &&& (65535 : Int32))).toInt64 * (xx + ((l1.toUInt32 >>> ((16 : Int32) &&& 31).toUInt32).toInt32 &&& (32767 : Int32)).toInt64)) (((1 : Int32) + (l2 &&& (65535 : Int32))).toInt64 * (xx + ((l2.toUInt32 >>> ((16 : Int32) &&& 31).toUInt32).toInt32 &&& (32767 : Int32)).toInt64))) (((1 : Int32) + (l3 &&& (65535 : Int32))).toInt64 * (xx + ((l3.toUInt32 >>> ((16 : Int32) &&& 31).toUInt32).toInt32 &&& (32767 : Int32)).toInt64))) (((1 : Int32) + (l4 &&& (65535 : Int32))).toInt64 * (xx + ((l4.toUInt32 >>> ((16 : Int32) &&& 31).toUInt32).toInt32 &&& (32767 : Int32)).toInt64))).toInt.natAbs ≤ 2 ^ 53)) :
    MetFree l (⟨"com/example/arbor_center/arborcenter/objective/UpperEnvelopeAddPinLaw", "check", "(Lcom/example/arbor_center/arborcenter/objective/UpperEnvelope;IJIIII)Z"⟩ : MethodName) (head1 (Jvm.Cond.code (⟨"com/example/arbor_center/arborcenter/objective/UpperEnvelopeAddPinLaw", "check", "(Lcom/example/arbor_center/arborcenter/objective/UpperEnvelope;IJIIII)Z"⟩ : MethodName) method_7_code 8 (some .boolean) :: ws) ({ frames := 3, cells := 0, slots := 0, locals := 53 } : Room)) (fun A9 U9 => A9 = #[(.ref a), (.int ix), (.long xx), (.int l1), (.int l2), (.int l3), (.int l4)] ∧ Z.Warmed39 U9.vm ∧ U9.heap = h0) (fun _ _ _ _ _ => True) (fun _ U9 o9 V9 => ∃ v9 L9, o9 = .returned v9 ∧ (Q7_4_3 Z a ix xx l1 l2 l3 l4 ph pl k1 k2 hp ls P W D h0 n0) v9 V9.heap L9 ∧ FrameEnd U9 o9 V9 L9 ({ frames := 3, cells := 0, slots := 0, locals := 53 } : Room).cells ({ frames := 3, cells := 0, slots := 0, locals := 53 } : Room).slots) := by
  refine met_of (Q := (Q7_4_3 Z a ix xx l1 l2 l3 l4 ph pl k1 k2 hp ls P W D h0 n0)) pn_7 ?_
  intro p e s m below meth c T0 C X0 e0
  have N0 := Fr.nil n0
  refine Go.cast (ef_7_4_3 m a ix xx l1 l2 l3 l4) ?_
  subst hix
  refine waloadN C X0 f7_0 rfl rfl ?_
  refine wiloadN C X0 f7_1 rfl ?_
  refine wvirtual C X0 (y := (⟨"com/example/arbor_center/arborcenter/objective/UpperEnvelope", "at", "(I)D"⟩ : MethodName)) (z := (⟨"com/example/arbor_center/arborcenter/objective/UpperEnvelope", "at", "(I)D"⟩ : MethodName)) (tw_38 hw) (tw_39 hw) (notFace_of_selects (args := #[]) (mvT C.2.1 (tw_41 hw))) (tw_41 hw) (tw_40 hw) (tw_42 hw) (tw_3 hw) (by decide) (rm8_4_3 l Z a0 hw [] a (3 : Int32) ph pl k1 k2 hp ls P W D h0 n0 Z0 Fld_1 Fld_2 Fld_3 Arv_4 Arv_5 rfl hL hP) e0 (a := a) Exa_0 f7_2 (argsL := [(.int (3 : Int32))]) (rest := []) rfl rfl (lenOf pd_3 rfl) rfl (W := 0) (Nat.le_of_eq rfl) (by decide) (by decide) (by decide) (by decide) ?_
  intro v1 T1 L1 X1 q1
  obtain ⟨rv_1, rfl, Nq1, eq1, G1_0⟩ := q1
  have N1 := Fr.app N0 Nq1
  show Go p e below s _ _ _ T1 (mkF m 5 #[.val (.ref a), .val (.int (3 : Int32)), .val (.long xx), .second, .val (.int l1), .val (.int l2), .val (.int l3), .val (.int l4)] [(.double rv_1)])
  refine wlloadN C X1 f7_5 rfl ?_
  refine wiload C X1 f7_6 rfl ?_
  refine wiload C X1 f7_8 rfl ?_
  refine wiload C X1 f7_10 rfl ?_
  refine wiload C X1 f7_12 rfl ?_
  refine wstatic C X1 (y := (⟨"com/example/arbor_center/arborcenter/objective/UpperEnvelopeAddPinLaw", "best", "(JIIII)J"⟩ : MethodName)) (tw_47 hw) (tw_48 hw) (tw_24 hw) (tw_49 hw) (by decide) (rm10 l Z a0 hw [] xx l1 l2 l3 l4 h0 n0 Z0) eq1 f7_14 (argsL := [(.long xx), (.int l1), (.int l2), (.int l3), (.int l4)]) (rest := [(.double rv_1)]) rfl rfl (lenOf pd_4 rfl) rfl (W := 2) (Nat.le_of_eq rfl) (by decide) (by decide) (by decide) (by decide) ?_
  intro v2 T2 L2 X2 q2
  obtain ⟨rfl, Nq2, eq2⟩ := q2
  have N2 := Fr.app N1 Nq2
  show Go p e below s _ _ _ T2 (mkF m 17 #[.val (.ref a), .val (.int (3 : Int32)), .val (.long xx), .second, .val (.int l1), .val (.int l2), .val (.int l3), .val (.int l4)] [(.long (R12 (R12 (R12 (((1 : Int32) + (l1 &&& (65535 : Int32))).toInt64 * (xx + ((l1.toUInt32 >>> ((16 : Int32) &&& 31).toUInt32).toInt32 &&& (32767 : Int32)).toInt64)) (((1 : Int32) + (l2 &&& (65535 : Int32))).toInt64 * (xx + ((l2.toUInt32 >>> ((16 : Int32) &&& 31).toUInt32).toInt32 &&& (32767 : Int32)).toInt64))) (((1 : Int32) + (l3 &&& (65535 : Int32))).toInt64 * (xx + ((l3.toUInt32 >>> ((16 : Int32) &&& 31).toUInt32).toInt32 &&& (32767 : Int32)).toInt64))) (((1 : Int32) + (l4 &&& (65535 : Int32))).toInt64 * (xx + ((l4.toUInt32 >>> ((16 : Int32) &&& 31).toUInt32).toInt32 &&& (32767 : Int32)).toInt64)))), (.double rv_1)])
  refine wl2d C X2 f7_17 ?_
  refine wdcmp C X2 f7_18 (v := (cmpValue (FP.dcmp rv_1 (FP.l2d (R12 (R12 (R12 (((1 : Int32) + (l1 &&& (65535 : Int32))).toInt64 * (xx + ((l1.toUInt32 >>> ((16 : Int32) &&& 31).toUInt32).toInt32 &&& (32767 : Int32)).toInt64)) (((1 : Int32) + (l2 &&& (65535 : Int32))).toInt64 * (xx + ((l2.toUInt32 >>> ((16 : Int32) &&& 31).toUInt32).toInt32 &&& (32767 : Int32)).toInt64))) (((1 : Int32) + (l3 &&& (65535 : Int32))).toInt64 * (xx + ((l3.toUInt32 >>> ((16 : Int32) &&& 31).toUInt32).toInt32 &&& (32767 : Int32)).toInt64))) (((1 : Int32) + (l4 &&& (65535 : Int32))).toInt64 * (xx + ((l4.toUInt32 >>> ((16 : Int32) &&& 31).toUInt32).toInt32 &&& (32767 : Int32)).toInt64))))) .l)) rfl ?_
  refine wif_ne C X2 f7_19 ?_ (fun q => absurd ((own_eq G1_0 (own_l2d hB) _).mpr hE) q)
  intro _
  refine wiconst C X2 f7_22 (1 : Int32) rfl ?_
  refine wgoto C X2 f7_23 ?_
  refine wiretN C X2 (t := .boolean) (by simp) f7_27 rfl (1 : Int32) (by decide) (by decide) (by decide) ?_
  rw [eq2]
  exact ⟨rfl, N2, rfl⟩
theorem f0_0 : Dec code 0 (.iconst 1) 1 1 := ⟨by decide +kernel, rfl⟩
theorem f0_1 : Dec code 1 (.iload_n 1) 1 2 := ⟨by decide +kernel, rfl⟩
theorem f0_2 : Dec code 2 (.iconst 3) 1 3 := ⟨by decide +kernel, rfl⟩
theorem f0_3 : Dec code 3 (.iand) 1 4 := ⟨by decide +kernel, rfl⟩
theorem f0_4 : Dec code 4 (.iadd) 1 5 := ⟨by decide +kernel, rfl⟩
theorem f0_5 : Dec code 5 (.istore 6) 2 7 := ⟨by decide +kernel, rfl⟩
theorem f0_7 : Dec code 7 (.iload_n 0) 1 8 := ⟨by decide +kernel, rfl⟩
theorem f0_8 : Dec code 8 (.sipush 255) 3 11 := ⟨by decide +kernel, rfl⟩
theorem f0_11 : Dec code 11 (.iand) 1 12 := ⟨by decide +kernel, rfl⟩
theorem f0_12 : Dec code 12 (.i2l) 1 13 := ⟨by decide +kernel, rfl⟩
theorem f0_13 : Dec code 13 (.lstore 7) 2 15 := ⟨by decide +kernel, rfl⟩
theorem f0_15 : Dec code 15 (.lload 7) 2 17 := ⟨by decide +kernel, rfl⟩
theorem f0_17 : Dec code 17 (.lconst 1) 1 18 := ⟨by decide +kernel, rfl⟩
theorem f0_18 : Dec code 18 (.ladd) 1 19 := ⟨by decide +kernel, rfl⟩
theorem f0_19 : Dec code 19 (.iload_n 0) 1 20 := ⟨by decide +kernel, rfl⟩
theorem f0_20 : Dec code 20 (.bipush 8) 2 22 := ⟨by decide +kernel, rfl⟩
theorem f0_22 : Dec code 22 (.iushr) 1 23 := ⟨by decide +kernel, rfl⟩
theorem f0_23 : Dec code 23 (.sipush 255) 3 26 := ⟨by decide +kernel, rfl⟩
theorem f0_26 : Dec code 26 (.iand) 1 27 := ⟨by decide +kernel, rfl⟩
theorem f0_27 : Dec code 27 (.i2l) 1 28 := ⟨by decide +kernel, rfl⟩
theorem f0_28 : Dec code 28 (.ladd) 1 29 := ⟨by decide +kernel, rfl⟩
theorem f0_29 : Dec code 29 (.lstore 9) 2 31 := ⟨by decide +kernel, rfl⟩
theorem f0_31 : Dec code 31 (.lload 9) 2 33 := ⟨by decide +kernel, rfl⟩
theorem f0_33 : Dec code 33 (.lconst 1) 1 34 := ⟨by decide +kernel, rfl⟩
theorem f0_34 : Dec code 34 (.ladd) 1 35 := ⟨by decide +kernel, rfl⟩
theorem f0_35 : Dec code 35 (.iload_n 0) 1 36 := ⟨by decide +kernel, rfl⟩
theorem f0_36 : Dec code 36 (.bipush 16) 2 38 := ⟨by decide +kernel, rfl⟩
theorem f0_38 : Dec code 38 (.iushr) 1 39 := ⟨by decide +kernel, rfl⟩
theorem f0_39 : Dec code 39 (.sipush 255) 3 42 := ⟨by decide +kernel, rfl⟩
theorem f0_42 : Dec code 42 (.iand) 1 43 := ⟨by decide +kernel, rfl⟩
theorem f0_43 : Dec code 43 (.i2l) 1 44 := ⟨by decide +kernel, rfl⟩
theorem f0_44 : Dec code 44 (.ladd) 1 45 := ⟨by decide +kernel, rfl⟩
theorem f0_45 : Dec code 45 (.lstore 11) 2 47 := ⟨by decide +kernel, rfl⟩
theorem f0_47 : Dec code 47 (.lload 11) 2 49 := ⟨by decide +kernel, rfl⟩
theorem f0_49 : Dec code 49 (.lconst 1) 1 50 := ⟨by decide +kernel, rfl⟩
theorem f0_50 : Dec code 50 (.ladd) 1 51 := ⟨by decide +kernel, rfl⟩
theorem f0_51 : Dec code 51 (.iload_n 0) 1 52 := ⟨by decide +kernel, rfl⟩
theorem f0_52 : Dec code 52 (.bipush 24) 2 54 := ⟨by decide +kernel, rfl⟩
theorem f0_54 : Dec code 54 (.iushr) 1 55 := ⟨by decide +kernel, rfl⟩
theorem f0_55 : Dec code 55 (.sipush 255) 3 58 := ⟨by decide +kernel, rfl⟩
theorem f0_58 : Dec code 58 (.iand) 1 59 := ⟨by decide +kernel, rfl⟩
theorem f0_59 : Dec code 59 (.i2l) 1 60 := ⟨by decide +kernel, rfl⟩
theorem f0_60 : Dec code 60 (.ladd) 1 61 := ⟨by decide +kernel, rfl⟩
theorem f0_61 : Dec code 61 (.lstore 13) 2 63 := ⟨by decide +kernel, rfl⟩
theorem f0_63 : Dec code 63 (.iconst 4) 1 64 := ⟨by decide +kernel, rfl⟩
theorem f0_64 : Dec code 64 (.newarray .double) 2 66 := ⟨by decide +kernel, rfl⟩
theorem f0_66 : Dec code 66 (.astore 15) 2 68 := ⟨by decide +kernel, rfl⟩
theorem f0_68 : Dec code 68 (.aload 15) 2 70 := ⟨by decide +kernel, rfl⟩
theorem f0_70 : Dec code 70 (.iconst 0) 1 71 := ⟨by decide +kernel, rfl⟩
theorem f0_71 : Dec code 71 (.lload 7) 2 73 := ⟨by decide +kernel, rfl⟩
theorem f0_73 : Dec code 73 (.l2d) 1 74 := ⟨by decide +kernel, rfl⟩
theorem f0_74 : Dec code 74 (.dastore) 1 75 := ⟨by decide +kernel, rfl⟩
theorem f0_75 : Dec code 75 (.aload 15) 2 77 := ⟨by decide +kernel, rfl⟩
theorem f0_77 : Dec code 77 (.iconst 1) 1 78 := ⟨by decide +kernel, rfl⟩
theorem f0_78 : Dec code 78 (.lload 9) 2 80 := ⟨by decide +kernel, rfl⟩
theorem f0_80 : Dec code 80 (.l2d) 1 81 := ⟨by decide +kernel, rfl⟩
theorem f0_81 : Dec code 81 (.dastore) 1 82 := ⟨by decide +kernel, rfl⟩
theorem f0_82 : Dec code 82 (.aload 15) 2 84 := ⟨by decide +kernel, rfl⟩
theorem f0_84 : Dec code 84 (.iconst 2) 1 85 := ⟨by decide +kernel, rfl⟩
theorem f0_85 : Dec code 85 (.lload 11) 2 87 := ⟨by decide +kernel, rfl⟩
theorem f0_87 : Dec code 87 (.l2d) 1 88 := ⟨by decide +kernel, rfl⟩
theorem f0_88 : Dec code 88 (.dastore) 1 89 := ⟨by decide +kernel, rfl⟩
theorem f0_89 : Dec code 89 (.aload 15) 2 91 := ⟨by decide +kernel, rfl⟩
theorem f0_91 : Dec code 91 (.iconst 3) 1 92 := ⟨by decide +kernel, rfl⟩
theorem f0_92 : Dec code 92 (.lload 13) 2 94 := ⟨by decide +kernel, rfl⟩
theorem f0_94 : Dec code 94 (.l2d) 1 95 := ⟨by decide +kernel, rfl⟩
theorem f0_95 : Dec code 95 (.dastore) 1 96 := ⟨by decide +kernel, rfl⟩
theorem f0_96 : Dec code 96 (.new 7) 3 99 := ⟨by decide +kernel, rfl⟩
theorem f0_99 : Dec code 99 (.dup) 1 100 := ⟨by decide +kernel, rfl⟩
theorem f0_100 : Dec code 100 (.iconst 4) 1 101 := ⟨by decide +kernel, rfl⟩
theorem f0_101 : Dec code 101 (.invokespecial 9) 3 104 := ⟨by decide +kernel, rfl⟩
theorem f0_104 : Dec code 104 (.astore 16) 2 106 := ⟨by decide +kernel, rfl⟩
theorem f0_106 : Dec code 106 (.aload 16) 2 108 := ⟨by decide +kernel, rfl⟩
theorem f0_108 : Dec code 108 (.aload 15) 2 110 := ⟨by decide +kernel, rfl⟩
theorem f0_110 : Dec code 110 (.iload 6) 2 112 := ⟨by decide +kernel, rfl⟩
theorem f0_112 : Dec code 112 (.invokevirtual 12) 3 115 := ⟨by decide +kernel, rfl⟩
theorem f0_115 : Dec code 115 (.aload 16) 2 117 := ⟨by decide +kernel, rfl⟩
theorem f0_117 : Dec code 117 (.iload_n 2) 1 118 := ⟨by decide +kernel, rfl⟩
theorem f0_118 : Dec code 118 (.invokestatic 16) 3 121 := ⟨by decide +kernel, rfl⟩
theorem f0_121 : Dec code 121 (.l2d) 1 122 := ⟨by decide +kernel, rfl⟩
theorem f0_122 : Dec code 122 (.iload_n 2) 1 123 := ⟨by decide +kernel, rfl⟩
theorem f0_123 : Dec code 123 (.invokestatic 22) 3 126 := ⟨by decide +kernel, rfl⟩
theorem f0_126 : Dec code 126 (.l2d) 1 127 := ⟨by decide +kernel, rfl⟩
theorem f0_127 : Dec code 127 (.invokevirtual 25) 3 130 := ⟨by decide +kernel, rfl⟩
theorem f0_130 : Dec code 130 (.aload 16) 2 132 := ⟨by decide +kernel, rfl⟩
theorem f0_132 : Dec code 132 (.iload_n 3) 1 133 := ⟨by decide +kernel, rfl⟩
theorem f0_133 : Dec code 133 (.invokestatic 16) 3 136 := ⟨by decide +kernel, rfl⟩
theorem f0_136 : Dec code 136 (.l2d) 1 137 := ⟨by decide +kernel, rfl⟩
theorem f0_137 : Dec code 137 (.iload_n 3) 1 138 := ⟨by decide +kernel, rfl⟩
theorem f0_138 : Dec code 138 (.invokestatic 22) 3 141 := ⟨by decide +kernel, rfl⟩
theorem f0_141 : Dec code 141 (.l2d) 1 142 := ⟨by decide +kernel, rfl⟩
theorem f0_142 : Dec code 142 (.invokevirtual 25) 3 145 := ⟨by decide +kernel, rfl⟩
theorem f0_145 : Dec code 145 (.aload 16) 2 147 := ⟨by decide +kernel, rfl⟩
theorem f0_147 : Dec code 147 (.iload 4) 2 149 := ⟨by decide +kernel, rfl⟩
theorem f0_149 : Dec code 149 (.invokestatic 16) 3 152 := ⟨by decide +kernel, rfl⟩
theorem f0_152 : Dec code 152 (.l2d) 1 153 := ⟨by decide +kernel, rfl⟩
theorem f0_153 : Dec code 153 (.iload 4) 2 155 := ⟨by decide +kernel, rfl⟩
theorem f0_155 : Dec code 155 (.invokestatic 22) 3 158 := ⟨by decide +kernel, rfl⟩
theorem f0_158 : Dec code 158 (.l2d) 1 159 := ⟨by decide +kernel, rfl⟩
theorem f0_159 : Dec code 159 (.invokevirtual 25) 3 162 := ⟨by decide +kernel, rfl⟩
theorem f0_162 : Dec code 162 (.aload 16) 2 164 := ⟨by decide +kernel, rfl⟩
theorem f0_164 : Dec code 164 (.iload 5) 2 166 := ⟨by decide +kernel, rfl⟩
theorem f0_166 : Dec code 166 (.invokestatic 16) 3 169 := ⟨by decide +kernel, rfl⟩
theorem f0_169 : Dec code 169 (.l2d) 1 170 := ⟨by decide +kernel, rfl⟩
theorem f0_170 : Dec code 170 (.iload 5) 2 172 := ⟨by decide +kernel, rfl⟩
theorem f0_172 : Dec code 172 (.invokestatic 22) 3 175 := ⟨by decide +kernel, rfl⟩
theorem f0_175 : Dec code 175 (.l2d) 1 176 := ⟨by decide +kernel, rfl⟩
theorem f0_176 : Dec code 176 (.invokevirtual 25) 3 179 := ⟨by decide +kernel, rfl⟩
theorem f0_179 : Dec code 179 (.aload 16) 2 181 := ⟨by decide +kernel, rfl⟩
theorem f0_181 : Dec code 181 (.iconst 0) 1 182 := ⟨by decide +kernel, rfl⟩
theorem f0_182 : Dec code 182 (.lload 7) 2 184 := ⟨by decide +kernel, rfl⟩
theorem f0_184 : Dec code 184 (.iload_n 2) 1 185 := ⟨by decide +kernel, rfl⟩
theorem f0_185 : Dec code 185 (.iload_n 3) 1 186 := ⟨by decide +kernel, rfl⟩
theorem f0_186 : Dec code 186 (.iload 4) 2 188 := ⟨by decide +kernel, rfl⟩
theorem f0_188 : Dec code 188 (.iload 5) 2 190 := ⟨by decide +kernel, rfl⟩
theorem f0_190 : Dec code 190 (.invokestatic 29) 3 193 := ⟨by decide +kernel, rfl⟩
theorem f0_193 : Dec code 193 (.istore 17) 2 195 := ⟨by decide +kernel, rfl⟩
theorem f0_195 : Dec code 195 (.iload 6) 2 197 := ⟨by decide +kernel, rfl⟩
theorem f0_197 : Dec code 197 (.iconst 1) 1 198 := ⟨by decide +kernel, rfl⟩
theorem f0_198 : DecJ code 198 (.if_icmp .le 32) 32 230 201 := ⟨by decide +kernel, by decide, by decide, rfl⟩
theorem f0_201 : Dec code 201 (.iload 17) 2 203 := ⟨by decide +kernel, rfl⟩
theorem f0_203 : DecJ code 203 (.ifCond .eq 24) 24 227 206 := ⟨by decide +kernel, by decide, by decide, rfl⟩
theorem f0_206 : Dec code 206 (.aload 16) 2 208 := ⟨by decide +kernel, rfl⟩
theorem f0_208 : Dec code 208 (.iconst 1) 1 209 := ⟨by decide +kernel, rfl⟩
theorem f0_209 : Dec code 209 (.lload 9) 2 211 := ⟨by decide +kernel, rfl⟩
theorem f0_211 : Dec code 211 (.iload_n 2) 1 212 := ⟨by decide +kernel, rfl⟩
theorem f0_212 : Dec code 212 (.iload_n 3) 1 213 := ⟨by decide +kernel, rfl⟩
theorem f0_213 : Dec code 213 (.iload 4) 2 215 := ⟨by decide +kernel, rfl⟩
theorem f0_215 : Dec code 215 (.iload 5) 2 217 := ⟨by decide +kernel, rfl⟩
theorem f0_217 : Dec code 217 (.invokestatic 29) 3 220 := ⟨by decide +kernel, rfl⟩
theorem f0_220 : DecJ code 220 (.ifCond .eq 7) 7 227 223 := ⟨by decide +kernel, by decide, by decide, rfl⟩
theorem f0_223 : Dec code 223 (.iconst 1) 1 224 := ⟨by decide +kernel, rfl⟩
theorem f0_224 : DecJ code 224 (.goto 4) 4 228 227 := ⟨by decide +kernel, by decide, by decide, rfl⟩
theorem f0_228 : Dec code 228 (.istore 17) 2 230 := ⟨by decide +kernel, rfl⟩
theorem f0_230 : Dec code 230 (.iload 6) 2 232 := ⟨by decide +kernel, rfl⟩
theorem f0_232 : Dec code 232 (.iconst 2) 1 233 := ⟨by decide +kernel, rfl⟩
theorem f0_233 : DecJ code 233 (.if_icmp .le 32) 32 265 236 := ⟨by decide +kernel, by decide, by decide, rfl⟩
theorem f0_236 : Dec code 236 (.iload 17) 2 238 := ⟨by decide +kernel, rfl⟩
theorem f0_238 : DecJ code 238 (.ifCond .eq 24) 24 262 241 := ⟨by decide +kernel, by decide, by decide, rfl⟩
theorem f0_241 : Dec code 241 (.aload 16) 2 243 := ⟨by decide +kernel, rfl⟩
theorem f0_243 : Dec code 243 (.iconst 2) 1 244 := ⟨by decide +kernel, rfl⟩
theorem f0_244 : Dec code 244 (.lload 11) 2 246 := ⟨by decide +kernel, rfl⟩
theorem f0_246 : Dec code 246 (.iload_n 2) 1 247 := ⟨by decide +kernel, rfl⟩
theorem f0_247 : Dec code 247 (.iload_n 3) 1 248 := ⟨by decide +kernel, rfl⟩
theorem f0_248 : Dec code 248 (.iload 4) 2 250 := ⟨by decide +kernel, rfl⟩
theorem f0_250 : Dec code 250 (.iload 5) 2 252 := ⟨by decide +kernel, rfl⟩
theorem f0_252 : Dec code 252 (.invokestatic 29) 3 255 := ⟨by decide +kernel, rfl⟩
theorem f0_255 : DecJ code 255 (.ifCond .eq 7) 7 262 258 := ⟨by decide +kernel, by decide, by decide, rfl⟩
theorem f0_258 : Dec code 258 (.iconst 1) 1 259 := ⟨by decide +kernel, rfl⟩
theorem f0_259 : DecJ code 259 (.goto 4) 4 263 262 := ⟨by decide +kernel, by decide, by decide, rfl⟩
theorem f0_263 : Dec code 263 (.istore 17) 2 265 := ⟨by decide +kernel, rfl⟩
theorem f0_265 : Dec code 265 (.iload 6) 2 267 := ⟨by decide +kernel, rfl⟩
theorem f0_267 : Dec code 267 (.iconst 3) 1 268 := ⟨by decide +kernel, rfl⟩
theorem f0_268 : DecJ code 268 (.if_icmp .le 32) 32 300 271 := ⟨by decide +kernel, by decide, by decide, rfl⟩
theorem f0_271 : Dec code 271 (.iload 17) 2 273 := ⟨by decide +kernel, rfl⟩
theorem f0_273 : DecJ code 273 (.ifCond .eq 24) 24 297 276 := ⟨by decide +kernel, by decide, by decide, rfl⟩
theorem f0_276 : Dec code 276 (.aload 16) 2 278 := ⟨by decide +kernel, rfl⟩
theorem f0_278 : Dec code 278 (.iconst 3) 1 279 := ⟨by decide +kernel, rfl⟩
theorem f0_279 : Dec code 279 (.lload 13) 2 281 := ⟨by decide +kernel, rfl⟩
theorem f0_281 : Dec code 281 (.iload_n 2) 1 282 := ⟨by decide +kernel, rfl⟩
theorem f0_282 : Dec code 282 (.iload_n 3) 1 283 := ⟨by decide +kernel, rfl⟩
theorem f0_283 : Dec code 283 (.iload 4) 2 285 := ⟨by decide +kernel, rfl⟩
theorem f0_285 : Dec code 285 (.iload 5) 2 287 := ⟨by decide +kernel, rfl⟩
theorem f0_287 : Dec code 287 (.invokestatic 29) 3 290 := ⟨by decide +kernel, rfl⟩
theorem f0_290 : DecJ code 290 (.ifCond .eq 7) 7 297 293 := ⟨by decide +kernel, by decide, by decide, rfl⟩
theorem f0_293 : Dec code 293 (.iconst 1) 1 294 := ⟨by decide +kernel, rfl⟩
theorem f0_294 : DecJ code 294 (.goto 4) 4 298 297 := ⟨by decide +kernel, by decide, by decide, rfl⟩
theorem f0_298 : Dec code 298 (.istore 17) 2 300 := ⟨by decide +kernel, rfl⟩
theorem f0_300 : Dec code 300 (.iload 17) 2 302 := ⟨by decide +kernel, rfl⟩
theorem f0_302 : Dec code 302 (.ireturn) 1 303 := ⟨by decide +kernel, rfl⟩
theorem pn_0 : plainFor x = true := plainFor_of_name (show plainName "com/example/arbor_center/arborcenter/objective/UpperEnvelopeAddPinLaw" = true by first | (simp [plainName, overriddenIn]; done) | decide +kernel)
theorem ef_0 (m : MethodId) (x1 : Int32) (x2 : Int32) (l1 : Int32) (l2 : Int32) (l3 : Int32) (l4 : Int32) : entryFrame m #[(.int x1), (.int x2), (.int l1), (.int l2), (.int l3), (.int l4)] maxLocals = mkF m 0 #[.val (.int x1), .val (.int x2), .val (.int l1), .val (.int l2), .val (.int l3), .val (.int l4), .unset, .unset, .unset, .unset, .unset, .unset, .unset, .unset, .unset, .unset, .unset, .unset] [] := by first | (simp [entryFrame, mkF, argsToLocals, Value.category, maxLocals]; done) | rfl
def Q0 (n0 : Nat) (v : Option Value) (h : Heap) (L : List Loc) : Prop := v = some (.int 1) ∧ Fr n0 L
set_option maxRecDepth 65536 in
set_option maxHeartbeats 40000000 in
theorem rm0 (l : Launch) (Z : State) (a0 : Array Value) (hw : ∀ d ∈ tables_1, d.before a0 Z = true) (ws : List Jvm.Cond) (x1 : Int32) (x2 : Int32) (l1 : Int32) (l2 : Int32) (l3 : Int32) (l4 : Int32) (h0 : Heap) (n0 : Nat) (Z0 : n0 ≤ h0.size) :
    MetFree l x (head1 (Jvm.Cond.code x code maxLocals ret :: ws) room_1) (fun A9 U9 => A9 = #[(.int x1), (.int x2), (.int l1), (.int l2), (.int l3), (.int l4)] ∧ Z.Warmed39 U9.vm ∧ U9.heap = h0) (fun _ _ _ _ _ => True) (fun _ U9 o9 V9 => ∃ v9 L9, o9 = .returned v9 ∧ (Q0 n0) v9 V9.heap L9 ∧ FrameEnd U9 o9 V9 L9 room_1.cells room_1.slots) := by
  refine met_of (Q := (Q0 n0)) pn_0 ?_
  intro p e s m below meth c T0 C X0 e0
  have N0 := Fr.nil n0
  refine Go.cast (ef_0 m x1 x2 l1 l2 l3 l4) ?_
  refine wiconst C X0 f0_0 (1 : Int32) rfl ?_
  refine wiloadN C X0 f0_1 rfl ?_
  refine wiconst C X0 f0_2 (3 : Int32) rfl ?_
  refine wiand C X0 f0_3 ?_
  refine wiadd C X0 f0_4 ?_
  have hct := own_ct x2
  generalize ((1 : Int32) + (x2 &&& (3 : Int32))) = ct at hct ⊢
  refine wistore C X0 f0_5 #[.val (.int x1), .val (.int x2), .val (.int l1), .val (.int l2), .val (.int l3), .val (.int l4), .val (.int ct), .unset, .unset, .unset, .unset, .unset, .unset, .unset, .unset, .unset, .unset, .unset] rfl ?_
  refine wiloadN C X0 f0_7 rfl ?_
  refine wsipush C X0 f0_8 (255 : Int32) bp_s_255 ?_
  refine wiand C X0 f0_11 ?_
  refine wi2l C X0 f0_12 ?_
  have hp0 := own_msk x1
  generalize (x1 &&& (255 : Int32)).toInt64 = p0 at hp0 ⊢
  refine wlstore C X0 f0_13 #[.val (.int x1), .val (.int x2), .val (.int l1), .val (.int l2), .val (.int l3), .val (.int l4), .val (.int ct), .val (.long p0), .second, .unset, .unset, .unset, .unset, .unset, .unset, .unset, .unset, .unset] rfl ?_
  refine wlload C X0 f0_15 rfl ?_
  refine wlconst1 C X0 f0_17 ?_
  refine wladd C X0 f0_18 ?_
  refine wiloadN C X0 f0_19 rfl ?_
  refine wbipush C X0 f0_20 (8 : Int32) bp_b_8 ?_
  refine wiushr C X0 f0_22 ?_
  refine wsipush C X0 f0_23 (255 : Int32) bp_s_255 ?_
  refine wiand C X0 f0_26 ?_
  refine wi2l C X0 f0_27 ?_
  have hg1 := own_msk ((x1.toUInt32 >>> ((8 : Int32) &&& 31).toUInt32).toInt32)
  generalize ((x1.toUInt32 >>> ((8 : Int32) &&& 31).toUInt32).toInt32 &&& (255 : Int32)).toInt64 = g1 at hg1 ⊢
  refine wladd C X0 f0_28 ?_
  have hp1 := own_pp hp0 hg1 (by decide)
  generalize ((p0 + (1 : Int64)) + g1) = p1 at hp1 ⊢
  refine wlstore C X0 f0_29 #[.val (.int x1), .val (.int x2), .val (.int l1), .val (.int l2), .val (.int l3), .val (.int l4), .val (.int ct), .val (.long p0), .second, .val (.long p1), .second, .unset, .unset, .unset, .unset, .unset, .unset, .unset] rfl ?_
  refine wlload C X0 f0_31 rfl ?_
  refine wlconst1 C X0 f0_33 ?_
  refine wladd C X0 f0_34 ?_
  refine wiloadN C X0 f0_35 rfl ?_
  refine wbipush C X0 f0_36 (16 : Int32) bp_b_16 ?_
  refine wiushr C X0 f0_38 ?_
  refine wsipush C X0 f0_39 (255 : Int32) bp_s_255 ?_
  refine wiand C X0 f0_42 ?_
  refine wi2l C X0 f0_43 ?_
  have hg2 := own_msk ((x1.toUInt32 >>> ((16 : Int32) &&& 31).toUInt32).toInt32)
  generalize ((x1.toUInt32 >>> ((16 : Int32) &&& 31).toUInt32).toInt32 &&& (255 : Int32)).toInt64 = g2 at hg2 ⊢
  refine wladd C X0 f0_44 ?_
  have hp2 := own_pp hp1.2 hg2 (by decide)
  generalize ((p1 + (1 : Int64)) + g2) = p2 at hp2 ⊢
  refine wlstore C X0 f0_45 #[.val (.int x1), .val (.int x2), .val (.int l1), .val (.int l2), .val (.int l3), .val (.int l4), .val (.int ct), .val (.long p0), .second, .val (.long p1), .second, .val (.long p2), .second, .unset, .unset, .unset, .unset, .unset] rfl ?_
  refine wlload C X0 f0_47 rfl ?_
  refine wlconst1 C X0 f0_49 ?_
  refine wladd C X0 f0_50 ?_
  refine wiloadN C X0 f0_51 rfl ?_
  refine wbipush C X0 f0_52 (24 : Int32) bp_b_24 ?_
  refine wiushr C X0 f0_54 ?_
  refine wsipush C X0 f0_55 (255 : Int32) bp_s_255 ?_
  refine wiand C X0 f0_58 ?_
  refine wi2l C X0 f0_59 ?_
  have hg3 := own_msk ((x1.toUInt32 >>> ((24 : Int32) &&& 31).toUInt32).toInt32)
  generalize ((x1.toUInt32 >>> ((24 : Int32) &&& 31).toUInt32).toInt32 &&& (255 : Int32)).toInt64 = g3 at hg3 ⊢
  refine wladd C X0 f0_60 ?_
  have hp3 := own_pp hp2.2 hg3 (by decide)
  generalize ((p2 + (1 : Int64)) + g3) = p3 at hp3 ⊢
  have hm0 : ∀ k, k ≤ 4 → ∀ i j, i ≤ j → j < k → own_P4 p0.toInt p1.toInt p2.toInt p3.toInt i ≤ own_P4 p0.toInt p1.toInt p2.toInt p3.toInt j := fun k hk => own_mono4 hk (by omega) (by omega) (by omega)
  have hd_0 : ∃ q : Int, FP.Core.DInt q (FP.l2d p0) ∧ 0 ≤ q ∧ q ≤ 65536 := ⟨_, own_l2d (by omega), by omega, by omega⟩
  have hB0 := own_best p0 l1 l2 l3 l4 ⟨hp0.1, by omega⟩
  have mm0 := own_mulb (own_w l1) (q := p0) ⟨hp0.1, by omega⟩ (own_d l1)
  have hd_1 : ∃ q : Int, FP.Core.DInt q (FP.l2d p1) ∧ 0 ≤ q ∧ q ≤ 65536 := ⟨_, own_l2d (by omega), by omega, by omega⟩
  have hB1 := own_best p1 l1 l2 l3 l4 ⟨hp1.2.1, by omega⟩
  have mm1 := own_mulb (own_w l1) (q := p1) ⟨hp1.2.1, by omega⟩ (own_d l1)
  have hd_2 : ∃ q : Int, FP.Core.DInt q (FP.l2d p2) ∧ 0 ≤ q ∧ q ≤ 65536 := ⟨_, own_l2d (by omega), by omega, by omega⟩
  have hB2 := own_best p2 l1 l2 l3 l4 ⟨hp2.2.1, by omega⟩
  have mm2 := own_mulb (own_w l1) (q := p2) ⟨hp2.2.1, by omega⟩ (own_d l1)
  have hd_3 : ∃ q : Int, FP.Core.DInt q (FP.l2d p3) ∧ 0 ≤ q ∧ q ≤ 65536 := ⟨_, own_l2d (by omega), by omega, by omega⟩
  have hB3 := own_best p3 l1 l2 l3 l4 ⟨hp3.2.1, by omega⟩
  have mm3 := own_mulb (own_w l1) (q := p3) ⟨hp3.2.1, by omega⟩ (own_d l1)
  refine wlstore C X0 f0_61 #[.val (.int x1), .val (.int x2), .val (.int l1), .val (.int l2), .val (.int l3), .val (.int l4), .val (.int ct), .val (.long p0), .second, .val (.long p1), .second, .val (.long p2), .second, .val (.long p3), .second, .unset, .unset, .unset] rfl ?_
  refine wiconst C X0 f0_63 (4 : Int32) rfl ?_
  refine wnewarr C X0 (aty := .double) (tw_0 hw) e0 f0_64 (by decide) (cap := 4) (by decide) (by decide) (by decide) (by decide) ?_
  intro T1 h1 b1 k1 g1 X1 e1 E1 V1
  have sz1 : h0.size ≤ b1 := Nat.le_trans (Nat.le_refl h0.size) (Nat.le_of_eq g1.symm)
  have Vp1 : Arv Z h1 b1 k1 .double (4 : Int32) [(.double (0 : UInt64)), (.double (0 : UInt64)), (.double (0 : UInt64)), (.double (0 : UInt64))] (.double (0 : UInt64)) := Arv.pad V1 (pad_rep [] (.double (0 : UInt64)) 4)
  refine wastore C X1 f0_66 #[.val (.int x1), .val (.int x2), .val (.int l1), .val (.int l2), .val (.int l3), .val (.int l4), .val (.int ct), .val (.long p0), .second, .val (.long p1), .second, .val (.long p2), .second, .val (.long p3), .second, .val (.ref b1), .unset, .unset] rfl rfl ?_
  refine waload C X1 f0_68 rfl rfl ?_
  refine wiconst C X1 f0_70 (0 : Int32) rfl ?_
  refine wlload C X1 f0_71 rfl ?_
  refine wl2d C X1 f0_73 ?_
  refine wdastore C X1 e1 Vp1 f0_74 ⟨by decide, by decide⟩ 0 rfl (show (0 : Nat) < 4 by decide) [(.double (FP.l2d p0)), (.double (0 : UInt64)), (.double (0 : UInt64)), (.double (0 : UInt64))] rfl ?_
  intro T2 h2 sl2 w2 X2 e2 W2 V2
  have N2 := Fr.snoc X2 N0 (Nat.le_trans Z0 sz1)
  refine waload C X2 f0_75 rfl rfl ?_
  refine wiconst C X2 f0_77 (1 : Int32) rfl ?_
  refine wlload C X2 f0_78 rfl ?_
  refine wl2d C X2 f0_80 ?_
  refine wdastore C X2 e2 V2 f0_81 ⟨by decide, by decide⟩ 1 rfl (show (1 : Nat) < 4 by decide) [(.double (FP.l2d p0)), (.double (FP.l2d p1)), (.double (0 : UInt64)), (.double (0 : UInt64))] rfl ?_
  intro T3 h3 sl3 w3 X3 e3 W3 V3
  have N3 := Fr.snoc X3 N2 (Nat.le_trans Z0 sz1)
  refine waload C X3 f0_82 rfl rfl ?_
  refine wiconst C X3 f0_84 (2 : Int32) rfl ?_
  refine wlload C X3 f0_85 rfl ?_
  refine wl2d C X3 f0_87 ?_
  refine wdastore C X3 e3 V3 f0_88 ⟨by decide, by decide⟩ 2 rfl (show (2 : Nat) < 4 by decide) [(.double (FP.l2d p0)), (.double (FP.l2d p1)), (.double (FP.l2d p2)), (.double (0 : UInt64))] rfl ?_
  intro T4 h4 sl4 w4 X4 e4 W4 V4
  have N4 := Fr.snoc X4 N3 (Nat.le_trans Z0 sz1)
  refine waload C X4 f0_89 rfl rfl ?_
  refine wiconst C X4 f0_91 (3 : Int32) rfl ?_
  refine wlload C X4 f0_92 rfl ?_
  refine wl2d C X4 f0_94 ?_
  refine wdastore C X4 e4 V4 f0_95 ⟨by decide, by decide⟩ 3 rfl (show (3 : Nat) < 4 by decide) [(.double (FP.l2d p0)), (.double (FP.l2d p1)), (.double (FP.l2d p2)), (.double (FP.l2d p3))] rfl ?_
  intro T5 h5 sl5 w5 X5 e5 W5 V5
  have N5 := Fr.snoc X5 N4 (Nat.le_trans Z0 sz1)
  have q7 := (Nat.le_trans (Nat.le_trans (Nat.le_trans (Nat.le_trans (Nat.le_trans Z0 E1.1) (Nat.le_of_eq W2.size.symm)) (Nat.le_of_eq W3.size.symm)) (Nat.le_of_eq W4.size.symm)) (Nat.le_of_eq W5.size.symm))
  have q8 := (Nat.le_trans (Nat.le_trans (Nat.le_trans (Nat.le_trans (Nat.le_trans (Nat.le_refl h0.size) E1.1) (Nat.le_of_eq W2.size.symm)) (Nat.le_of_eq W3.size.symm)) (Nat.le_of_eq W4.size.symm)) (Nat.le_of_eq W5.size.symm))
  refine wnew C X5 (tw_1 hw) (tw_2 hw) (tw_3 hw) e5 f0_96 (by decide) (by decide) ?_
  intro T6 h6 b6 g6 X6 e6 E6 A6 D6
  have sz6 : h0.size ≤ b6 := Nat.le_trans q8 (Nat.le_of_eq g6.symm)
  have F6_halfPoints : Fld Z h6 b6 "com/example/arbor_center/arborcenter/objective/UpperEnvelope" "halfPoints" "[D" .null := D6 (Or.inr (tw_11 hw)) (ty := (.array .double)) (by decide)
  have F6_lines : Fld Z h6 b6 "com/example/arbor_center/arborcenter/objective/UpperEnvelope" "lines" "[D" .null := D6 (Or.inr (tw_13 hw)) (ty := (.array .double)) (by decide)
  have F6_count : Fld Z h6 b6 "com/example/arbor_center/arborcenter/objective/UpperEnvelope" "count" "I" (.int (0 : Int32)) := D6 (Or.inl (tw_20 hw)) (ty := .int) (by decide)
  refine wdup C X6 f0_99 rfl ?_
  refine wiconst C X6 f0_100 (4 : Int32) rfl ?_
  refine wspecial C X6 (y := (⟨"com/example/arbor_center/arborcenter/objective/UpperEnvelope", "<init>", "(I)V"⟩ : MethodName)) rfl (tw_4 hw) (tw_5 hw) (tw_6 hw) (tw_3 hw) rfl (by decide) (rm1 l Z a0 hw [] b6 (4 : Int32) h6 n0 (Nat.le_trans q7 E6.1) A6 F6_halfPoints F6_count F6_lines (Nat.le_trans Z0 sz6) rfl) e6 f0_101 (a := b6) (argsL := [(.int (4 : Int32))]) (rest := [(.ref b6)]) rfl rfl (lenOf pd_5 rfl) rfl (W := 1) (Nat.le_of_eq rfl) (by decide) (by decide) (by decide) (by decide) ?_
  intro v9 T9 L9 X9 q9
  obtain ⟨ph_9, pl_9, k1_9, k2_9, rfl, Nq9, K9, G9_0, G9_1, G9_2, G9_3, G9_4, G9_5, G9_6, G9_7, G9_8⟩ := q9
  have szG9_1 : h0.size ≤ ph_9 := Nat.le_trans (Nat.le_trans q8 E6.1) G9_1
  have szG9_2 : h0.size ≤ pl_9 := Nat.le_trans (Nat.le_trans q8 E6.1) G9_2
  have N9 := Fr.app N5 Nq9
  show Go p e below s _ _ _ T9 (mkF m 104 #[.val (.int x1), .val (.int x2), .val (.int l1), .val (.int l2), .val (.int l3), .val (.int l4), .val (.int ct), .val (.long p0), .second, .val (.long p1), .second, .val (.long p2), .second, .val (.long p3), .second, .val (.ref b1), .unset, .unset] [(.ref b6)])
  refine wastore C X9 f0_104 #[.val (.int x1), .val (.int x2), .val (.int l1), .val (.int l2), .val (.int l3), .val (.int l4), .val (.int ct), .val (.long p0), .second, .val (.long p1), .second, .val (.long p2), .second, .val (.long p3), .second, .val (.ref b1), .val (.ref b6), .unset] rfl rfl ?_
  refine waload C X9 f0_106 rfl rfl ?_
  refine waload C X9 f0_108 rfl rfl ?_
  refine wiload C X9 f0_110 rfl ?_
  rcases own_split hct with rfl | rfl | rfl | rfl
  · have ne11 : b1 ≠ b6 := (Nat.ne_of_lt (Nat.lt_of_lt_of_le (Nat.lt_of_lt_of_eq (Nat.lt_of_lt_of_eq (Nat.lt_of_lt_of_eq (Nat.lt_of_lt_of_eq Vp1.lt W2.size.symm) W3.size.symm) W4.size.symm) W5.size.symm) (Nat.le_of_eq g6.symm)))
    have ne12 : b6 ≠ ph_9 := (Nat.ne_of_lt (Nat.lt_of_lt_of_le A6.lt G9_1))
    have ne13 : b6 ≠ pl_9 := (Nat.ne_of_lt (Nat.lt_of_lt_of_le A6.lt G9_2))
    have ne14 : b1 ≠ ph_9 := (Nat.ne_of_lt (Nat.lt_of_lt_of_le (Nat.lt_of_lt_of_le (Nat.lt_of_lt_of_eq (Nat.lt_of_lt_of_eq (Nat.lt_of_lt_of_eq (Nat.lt_of_lt_of_eq Vp1.lt W2.size.symm) W3.size.symm) W4.size.symm) W5.size.symm) E6.1) G9_1))
    have ne15 : b1 ≠ pl_9 := (Nat.ne_of_lt (Nat.lt_of_lt_of_le (Nat.lt_of_lt_of_le (Nat.lt_of_lt_of_eq (Nat.lt_of_lt_of_eq (Nat.lt_of_lt_of_eq (Nat.lt_of_lt_of_eq Vp1.lt W2.size.symm) W3.size.symm) W4.size.symm) W5.size.symm) E6.1) G9_2))
    refine wvirtual C X9 (y := (⟨"com/example/arbor_center/arborcenter/objective/UpperEnvelope", "reset", "([DI)V"⟩ : MethodName)) (z := (⟨"com/example/arbor_center/arborcenter/objective/UpperEnvelope", "reset", "([DI)V"⟩ : MethodName)) (tw_14 hw) (tw_15 hw) (notFace_of_selects (args := #[]) (mvT C.2.1 (tw_17 hw))) (tw_17 hw) (tw_16 hw) (tw_18 hw) (tw_3 hw) (by decide) (rm3_1 l Z a0 hw [] b6 b1 (1 : Int32) ph_9 pl_9 k1_9 k2_9 k1 (0 : Int32) [(.double (0 : UInt64)), (.double (0 : UInt64)), (.double (0 : UInt64)), (.double (0 : UInt64)), (.double (0 : UInt64)), (.double (0 : UInt64)), (.double (0 : UInt64)), (.double (0 : UInt64)), (.double (0 : UInt64)), (.double (0 : UInt64)), (.double (0 : UInt64)), (.double (0 : UInt64)), (.double (0 : UInt64)), (.double (0 : UInt64))] (0 : UInt64) (0 : UInt64) (0 : UInt64) (0 : UInt64) (FP.l2d p0) (FP.l2d p1) (FP.l2d p2) (FP.l2d p3) T9.heap n0 (Nat.le_trans (Nat.le_trans q7 E6.1) K9.1) G9_0 G9_4 G9_5 G9_6 G9_7 G9_8 ((V5.ext E6).keep K9 (ninS ne11 nin0)) (Nat.le_trans Z0 sz6) (Nat.le_trans Z0 szG9_1) (Nat.le_trans Z0 szG9_2) ne12 ne13 G9_3 ne11 ne14 ne15 rfl rfl hd_0) rfl (a := b6) G9_0 f0_112 (argsL := [(.ref b1), (.int (1 : Int32))]) (rest := []) rfl rfl (lenOf pd_6 rfl) rfl (W := 0) (Nat.le_of_eq rfl) (by decide) (by decide) (by decide) (by decide) ?_
    intro v10 T10 L10 X10 q10
    obtain ⟨rfl, Nq10, K10, G10_0, G10_1, G10_2, G10_3, G10_4, G10_5⟩ := q10
    have N10 := Fr.app N9 Nq10
    show Go p e below s _ _ _ T10 (mkF m 115 #[.val (.int x1), .val (.int x2), .val (.int l1), .val (.int l2), .val (.int l3), .val (.int l4), .val (.int (1 : Int32)), .val (.long p0), .second, .val (.long p1), .second, .val (.long p2), .second, .val (.long p3), .second, .val (.ref b1), .val (.ref b6), .unset] [])
    refine waload C X10 f0_115 rfl rfl ?_
    refine wiloadN C X10 f0_117 rfl ?_
    have q17 := (Nat.le_trans (Nat.le_trans (Nat.le_trans q7 E6.1) K9.1) K10.1)
    refine wstatic C X10 (y := (⟨"com/example/arbor_center/arborcenter/objective/UpperEnvelopeAddPinLaw", "w", "(I)J"⟩ : MethodName)) (tw_22 hw) (tw_23 hw) (tw_24 hw) (tw_25 hw) (by decide) (rm4 l Z a0 hw [] l1 T10.heap n0 q17) rfl f0_118 (argsL := [(.int l1)]) (rest := [(.ref b6)]) rfl rfl (lenOf pd_0 rfl) rfl (W := 1) (Nat.le_of_eq rfl) (by decide) (by decide) (by decide) (by decide) ?_
    intro v16 T16 L16 X16 q16
    obtain ⟨rfl, Nq16, eq16⟩ := q16
    have N16 := Fr.app N10 Nq16
    show Go p e below s _ _ _ T16 (mkF m 121 #[.val (.int x1), .val (.int x2), .val (.int l1), .val (.int l2), .val (.int l3), .val (.int l4), .val (.int (1 : Int32)), .val (.long p0), .second, .val (.long p1), .second, .val (.long p2), .second, .val (.long p3), .second, .val (.ref b1), .val (.ref b6), .unset] [(.long ((1 : Int32) + (l1 &&& (65535 : Int32))).toInt64), (.ref b6)])
    refine wl2d C X16 f0_121 ?_
    refine wiloadN C X16 f0_122 rfl ?_
    refine wstatic C X16 (y := (⟨"com/example/arbor_center/arborcenter/objective/UpperEnvelopeAddPinLaw", "d", "(I)J"⟩ : MethodName)) (tw_27 hw) (tw_28 hw) (tw_24 hw) (tw_29 hw) (by decide) (rm5 l Z a0 hw [] l1 T10.heap n0 q17) eq16 f0_123 (argsL := [(.int l1)]) (rest := [(.double (FP.l2d ((1 : Int32) + (l1 &&& (65535 : Int32))).toInt64)), (.ref b6)]) rfl rfl (lenOf pd_0 rfl) rfl (W := 3) (Nat.le_of_eq rfl) (by decide) (by decide) (by decide) (by decide) ?_
    intro v18 T18 L18 X18 q18
    obtain ⟨rfl, Nq18, eq18⟩ := q18
    have N18 := Fr.app N16 Nq18
    show Go p e below s _ _ _ T18 (mkF m 126 #[.val (.int x1), .val (.int x2), .val (.int l1), .val (.int l2), .val (.int l3), .val (.int l4), .val (.int (1 : Int32)), .val (.long p0), .second, .val (.long p1), .second, .val (.long p2), .second, .val (.long p3), .second, .val (.ref b1), .val (.ref b6), .unset] [(.long ((l1.toUInt32 >>> ((16 : Int32) &&& 31).toUInt32).toInt32 &&& (32767 : Int32)).toInt64), (.double (FP.l2d ((1 : Int32) + (l1 &&& (65535 : Int32))).toInt64)), (.ref b6)])
    refine wl2d C X18 f0_126 ?_
    refine wvirtual C X18 (y := (⟨"com/example/arbor_center/arborcenter/objective/UpperEnvelope", "add", "(DD)V"⟩ : MethodName)) (z := (⟨"com/example/arbor_center/arborcenter/objective/UpperEnvelope", "add", "(DD)V"⟩ : MethodName)) (tw_30 hw) (tw_31 hw) (notFace_of_selects (args := #[]) (mvT C.2.1 (tw_33 hw))) (tw_33 hw) (tw_32 hw) (tw_34 hw) (tw_3 hw) (by decide) (rm6 l Z a0 hw [] b6 (FP.l2d ((1 : Int32) + (l1 &&& (65535 : Int32))).toInt64) (FP.l2d ((l1.toUInt32 >>> ((16 : Int32) &&& 31).toUInt32).toInt32 &&& (32767 : Int32)).toInt64) ph_9 pl_9 k1_9 k2_9 1 [(.double (FP.ddiv (FP.l2d p0) (4611686018427387904 : UInt64))), (.double (0 : UInt64)), (.double (0 : UInt64)), (.double (0 : UInt64))] _ (own_P4 p0.toInt p1.toInt p2.toInt p3.toInt) (own_upd (fun _ => 0) 0 0) (own_upd (fun _ => 0) 0 0) (((1 : Int32) + (l1 &&& (65535 : Int32))).toInt64.toInt) (((l1.toUInt32 >>> ((16 : Int32) &&& 31).toUInt32).toInt32 &&& (32767 : Int32)).toInt64.toInt) T10.heap n0 q17 G10_1 G10_2 G10_3 G10_4 G10_5 (Nat.le_trans Z0 szG9_2) ne13 G9_3 (own_Lz 0 own_Ls0 (by decide) rfl rfl) (own_Ps4 (by decide) (fun _ => own_l2p hp0 (by decide)) (fun q => absurd q (by decide)) (fun q => absurd q (by decide)) (fun q => absurd q (by decide))) (hm0 _ (by decide)) (by decide) (by decide) (own_wd (own_w l1) (own_d l1))) eq18 (a := b6) G10_0 f0_127 (argsL := [(.double (FP.l2d ((1 : Int32) + (l1 &&& (65535 : Int32))).toInt64)), (.double (FP.l2d ((l1.toUInt32 >>> ((16 : Int32) &&& 31).toUInt32).toInt32 &&& (32767 : Int32)).toInt64))]) (rest := []) rfl rfl (lenOf pd_7 rfl) rfl (W := 0) (Nat.le_of_eq rfl) (by decide) (by decide) (by decide) (by decide) ?_
    intro v19 T19 L19 X19 q19
    obtain ⟨ls'_19, W'_19, D'_19, rfl, Nq19, K19, G19_0, G19_1, G19_2⟩ := q19
    have q20 := (Nat.le_trans (Nat.le_trans (Nat.le_trans q8 E6.1) K9.1) K10.1)
    have N19 := Fr.app N18 Nq19
    show Go p e below s _ _ _ T19 (mkF m 130 #[.val (.int x1), .val (.int x2), .val (.int l1), .val (.int l2), .val (.int l3), .val (.int l4), .val (.int (1 : Int32)), .val (.long p0), .second, .val (.long p1), .second, .val (.long p2), .second, .val (.long p3), .second, .val (.ref b1), .val (.ref b6), .unset] [])
    refine waload C X19 f0_130 rfl rfl ?_
    refine wiloadN C X19 f0_132 rfl ?_
    refine wstatic C X19 (y := (⟨"com/example/arbor_center/arborcenter/objective/UpperEnvelopeAddPinLaw", "w", "(I)J"⟩ : MethodName)) (tw_22 hw) (tw_23 hw) (tw_24 hw) (tw_25 hw) (by decide) (rm4 l Z a0 hw [] l2 T19.heap n0 (Nat.le_trans q17 K19.1)) rfl f0_133 (argsL := [(.int l2)]) (rest := [(.ref b6)]) rfl rfl (lenOf pd_0 rfl) rfl (W := 1) (Nat.le_of_eq rfl) (by decide) (by decide) (by decide) (by decide) ?_
    intro v21 T21 L21 X21 q21
    obtain ⟨rfl, Nq21, eq21⟩ := q21
    have N21 := Fr.app N19 Nq21
    show Go p e below s _ _ _ T21 (mkF m 136 #[.val (.int x1), .val (.int x2), .val (.int l1), .val (.int l2), .val (.int l3), .val (.int l4), .val (.int (1 : Int32)), .val (.long p0), .second, .val (.long p1), .second, .val (.long p2), .second, .val (.long p3), .second, .val (.ref b1), .val (.ref b6), .unset] [(.long ((1 : Int32) + (l2 &&& (65535 : Int32))).toInt64), (.ref b6)])
    refine wl2d C X21 f0_136 ?_
    refine wiloadN C X21 f0_137 rfl ?_
    refine wstatic C X21 (y := (⟨"com/example/arbor_center/arborcenter/objective/UpperEnvelopeAddPinLaw", "d", "(I)J"⟩ : MethodName)) (tw_27 hw) (tw_28 hw) (tw_24 hw) (tw_29 hw) (by decide) (rm5 l Z a0 hw [] l2 T19.heap n0 (Nat.le_trans q17 K19.1)) eq21 f0_138 (argsL := [(.int l2)]) (rest := [(.double (FP.l2d ((1 : Int32) + (l2 &&& (65535 : Int32))).toInt64)), (.ref b6)]) rfl rfl (lenOf pd_0 rfl) rfl (W := 3) (Nat.le_of_eq rfl) (by decide) (by decide) (by decide) (by decide) ?_
    intro v22 T22 L22 X22 q22
    obtain ⟨rfl, Nq22, eq22⟩ := q22
    have N22 := Fr.app N21 Nq22
    show Go p e below s _ _ _ T22 (mkF m 141 #[.val (.int x1), .val (.int x2), .val (.int l1), .val (.int l2), .val (.int l3), .val (.int l4), .val (.int (1 : Int32)), .val (.long p0), .second, .val (.long p1), .second, .val (.long p2), .second, .val (.long p3), .second, .val (.ref b1), .val (.ref b6), .unset] [(.long ((l2.toUInt32 >>> ((16 : Int32) &&& 31).toUInt32).toInt32 &&& (32767 : Int32)).toInt64), (.double (FP.l2d ((1 : Int32) + (l2 &&& (65535 : Int32))).toInt64)), (.ref b6)])
    refine wl2d C X22 f0_141 ?_
    refine wvirtual C X22 (y := (⟨"com/example/arbor_center/arborcenter/objective/UpperEnvelope", "add", "(DD)V"⟩ : MethodName)) (z := (⟨"com/example/arbor_center/arborcenter/objective/UpperEnvelope", "add", "(DD)V"⟩ : MethodName)) (tw_30 hw) (tw_31 hw) (notFace_of_selects (args := #[]) (mvT C.2.1 (tw_33 hw))) (tw_33 hw) (tw_32 hw) (tw_34 hw) (tw_3 hw) (by decide) (rm6 l Z a0 hw [] b6 (FP.l2d ((1 : Int32) + (l2 &&& (65535 : Int32))).toInt64) (FP.l2d ((l2.toUInt32 >>> ((16 : Int32) &&& 31).toUInt32).toInt32 &&& (32767 : Int32)).toInt64) ph_9 pl_9 k1_9 k2_9 1 [(.double (FP.ddiv (FP.l2d p0) (4611686018427387904 : UInt64))), (.double (0 : UInt64)), (.double (0 : UInt64)), (.double (0 : UInt64))] (ls'_19) (own_P4 p0.toInt p1.toInt p2.toInt p3.toInt) (W'_19) (D'_19) (((1 : Int32) + (l2 &&& (65535 : Int32))).toInt64.toInt) (((l2.toUInt32 >>> ((16 : Int32) &&& 31).toUInt32).toInt32 &&& (32767 : Int32)).toInt64.toInt) T19.heap n0 (Nat.le_trans q17 K19.1) (G10_1.keep K19 (ninS ne13 nin0)) (G10_2.keep K19 (ninS ne13 nin0)) (G10_3.keep K19 (ninS ne13 nin0)) (G10_4.keep K19 (ninS G9_3 nin0)) G19_0 (Nat.le_trans Z0 szG9_2) ne13 G9_3 G19_1 (own_Ps4 (by decide) (fun _ => own_l2p hp0 (by decide)) (fun q => absurd q (by decide)) (fun q => absurd q (by decide)) (fun q => absurd q (by decide))) (hm0 _ (by decide)) (by decide) (by decide) (own_wd (own_w l2) (own_d l2))) eq22 (a := b6) (G10_0.keep K19) f0_142 (argsL := [(.double (FP.l2d ((1 : Int32) + (l2 &&& (65535 : Int32))).toInt64)), (.double (FP.l2d ((l2.toUInt32 >>> ((16 : Int32) &&& 31).toUInt32).toInt32 &&& (32767 : Int32)).toInt64))]) (rest := []) rfl rfl (lenOf pd_7 rfl) rfl (W := 0) (Nat.le_of_eq rfl) (by decide) (by decide) (by decide) (by decide) ?_
    intro v23 T23 L23 X23 q23
    obtain ⟨ls'_23, W'_23, D'_23, rfl, Nq23, K23, G23_0, G23_1, G23_2⟩ := q23
    have N23 := Fr.app N22 Nq23
    show Go p e below s _ _ _ T23 (mkF m 145 #[.val (.int x1), .val (.int x2), .val (.int l1), .val (.int l2), .val (.int l3), .val (.int l4), .val (.int (1 : Int32)), .val (.long p0), .second, .val (.long p1), .second, .val (.long p2), .second, .val (.long p3), .second, .val (.ref b1), .val (.ref b6), .unset] [])
    refine waload C X23 f0_145 rfl rfl ?_
    refine wiload C X23 f0_147 rfl ?_
    refine wstatic C X23 (y := (⟨"com/example/arbor_center/arborcenter/objective/UpperEnvelopeAddPinLaw", "w", "(I)J"⟩ : MethodName)) (tw_22 hw) (tw_23 hw) (tw_24 hw) (tw_25 hw) (by decide) (rm4 l Z a0 hw [] l3 T23.heap n0 (Nat.le_trans (Nat.le_trans q17 K19.1) K23.1)) rfl f0_149 (argsL := [(.int l3)]) (rest := [(.ref b6)]) rfl rfl (lenOf pd_0 rfl) rfl (W := 1) (Nat.le_of_eq rfl) (by decide) (by decide) (by decide) (by decide) ?_
    intro v24 T24 L24 X24 q24
    obtain ⟨rfl, Nq24, eq24⟩ := q24
    have N24 := Fr.app N23 Nq24
    show Go p e below s _ _ _ T24 (mkF m 152 #[.val (.int x1), .val (.int x2), .val (.int l1), .val (.int l2), .val (.int l3), .val (.int l4), .val (.int (1 : Int32)), .val (.long p0), .second, .val (.long p1), .second, .val (.long p2), .second, .val (.long p3), .second, .val (.ref b1), .val (.ref b6), .unset] [(.long ((1 : Int32) + (l3 &&& (65535 : Int32))).toInt64), (.ref b6)])
    refine wl2d C X24 f0_152 ?_
    refine wiload C X24 f0_153 rfl ?_
    refine wstatic C X24 (y := (⟨"com/example/arbor_center/arborcenter/objective/UpperEnvelopeAddPinLaw", "d", "(I)J"⟩ : MethodName)) (tw_27 hw) (tw_28 hw) (tw_24 hw) (tw_29 hw) (by decide) (rm5 l Z a0 hw [] l3 T23.heap n0 (Nat.le_trans (Nat.le_trans q17 K19.1) K23.1)) eq24 f0_155 (argsL := [(.int l3)]) (rest := [(.double (FP.l2d ((1 : Int32) + (l3 &&& (65535 : Int32))).toInt64)), (.ref b6)]) rfl rfl (lenOf pd_0 rfl) rfl (W := 3) (Nat.le_of_eq rfl) (by decide) (by decide) (by decide) (by decide) ?_
    intro v25 T25 L25 X25 q25
    obtain ⟨rfl, Nq25, eq25⟩ := q25
    have N25 := Fr.app N24 Nq25
    show Go p e below s _ _ _ T25 (mkF m 158 #[.val (.int x1), .val (.int x2), .val (.int l1), .val (.int l2), .val (.int l3), .val (.int l4), .val (.int (1 : Int32)), .val (.long p0), .second, .val (.long p1), .second, .val (.long p2), .second, .val (.long p3), .second, .val (.ref b1), .val (.ref b6), .unset] [(.long ((l3.toUInt32 >>> ((16 : Int32) &&& 31).toUInt32).toInt32 &&& (32767 : Int32)).toInt64), (.double (FP.l2d ((1 : Int32) + (l3 &&& (65535 : Int32))).toInt64)), (.ref b6)])
    refine wl2d C X25 f0_158 ?_
    have q27 := ((G10_1.keep K19 (ninS ne13 nin0)).keep K23 (ninS ne13 nin0))
    have q28 := ((G10_2.keep K19 (ninS ne13 nin0)).keep K23 (ninS ne13 nin0))
    have q29 := ((G10_3.keep K19 (ninS ne13 nin0)).keep K23 (ninS ne13 nin0))
    have q30 := ((G10_4.keep K19 (ninS G9_3 nin0)).keep K23 (ninS G9_3 nin0))
    refine wvirtual C X25 (y := (⟨"com/example/arbor_center/arborcenter/objective/UpperEnvelope", "add", "(DD)V"⟩ : MethodName)) (z := (⟨"com/example/arbor_center/arborcenter/objective/UpperEnvelope", "add", "(DD)V"⟩ : MethodName)) (tw_30 hw) (tw_31 hw) (notFace_of_selects (args := #[]) (mvT C.2.1 (tw_33 hw))) (tw_33 hw) (tw_32 hw) (tw_34 hw) (tw_3 hw) (by decide) (rm6 l Z a0 hw [] b6 (FP.l2d ((1 : Int32) + (l3 &&& (65535 : Int32))).toInt64) (FP.l2d ((l3.toUInt32 >>> ((16 : Int32) &&& 31).toUInt32).toInt32 &&& (32767 : Int32)).toInt64) ph_9 pl_9 k1_9 k2_9 1 [(.double (FP.ddiv (FP.l2d p0) (4611686018427387904 : UInt64))), (.double (0 : UInt64)), (.double (0 : UInt64)), (.double (0 : UInt64))] (ls'_23) (own_P4 p0.toInt p1.toInt p2.toInt p3.toInt) (W'_23) (D'_23) (((1 : Int32) + (l3 &&& (65535 : Int32))).toInt64.toInt) (((l3.toUInt32 >>> ((16 : Int32) &&& 31).toUInt32).toInt32 &&& (32767 : Int32)).toInt64.toInt) T23.heap n0 (Nat.le_trans (Nat.le_trans q17 K19.1) K23.1) q27 q28 q29 q30 G23_0 (Nat.le_trans Z0 szG9_2) ne13 G9_3 G23_1 (own_Ps4 (by decide) (fun _ => own_l2p hp0 (by decide)) (fun q => absurd q (by decide)) (fun q => absurd q (by decide)) (fun q => absurd q (by decide))) (hm0 _ (by decide)) (by decide) (by decide) (own_wd (own_w l3) (own_d l3))) eq25 (a := b6) ((G10_0.keep K19).keep K23) f0_159 (argsL := [(.double (FP.l2d ((1 : Int32) + (l3 &&& (65535 : Int32))).toInt64)), (.double (FP.l2d ((l3.toUInt32 >>> ((16 : Int32) &&& 31).toUInt32).toInt32 &&& (32767 : Int32)).toInt64))]) (rest := []) rfl rfl (lenOf pd_7 rfl) rfl (W := 0) (Nat.le_of_eq rfl) (by decide) (by decide) (by decide) (by decide) ?_
    intro v26 T26 L26 X26 q26
    obtain ⟨ls'_26, W'_26, D'_26, rfl, Nq26, K26, G26_0, G26_1, G26_2⟩ := q26
    have N26 := Fr.app N25 Nq26
    show Go p e below s _ _ _ T26 (mkF m 162 #[.val (.int x1), .val (.int x2), .val (.int l1), .val (.int l2), .val (.int l3), .val (.int l4), .val (.int (1 : Int32)), .val (.long p0), .second, .val (.long p1), .second, .val (.long p2), .second, .val (.long p3), .second, .val (.ref b1), .val (.ref b6), .unset] [])
    refine waload C X26 f0_162 rfl rfl ?_
    refine wiload C X26 f0_164 rfl ?_
    have q32 := (Nat.le_trans (Nat.le_trans (Nat.le_trans q17 K19.1) K23.1) K26.1)
    refine wstatic C X26 (y := (⟨"com/example/arbor_center/arborcenter/objective/UpperEnvelopeAddPinLaw", "w", "(I)J"⟩ : MethodName)) (tw_22 hw) (tw_23 hw) (tw_24 hw) (tw_25 hw) (by decide) (rm4 l Z a0 hw [] l4 T26.heap n0 q32) rfl f0_166 (argsL := [(.int l4)]) (rest := [(.ref b6)]) rfl rfl (lenOf pd_0 rfl) rfl (W := 1) (Nat.le_of_eq rfl) (by decide) (by decide) (by decide) (by decide) ?_
    intro v31 T31 L31 X31 q31
    obtain ⟨rfl, Nq31, eq31⟩ := q31
    have N31 := Fr.app N26 Nq31
    show Go p e below s _ _ _ T31 (mkF m 169 #[.val (.int x1), .val (.int x2), .val (.int l1), .val (.int l2), .val (.int l3), .val (.int l4), .val (.int (1 : Int32)), .val (.long p0), .second, .val (.long p1), .second, .val (.long p2), .second, .val (.long p3), .second, .val (.ref b1), .val (.ref b6), .unset] [(.long ((1 : Int32) + (l4 &&& (65535 : Int32))).toInt64), (.ref b6)])
    refine wl2d C X31 f0_169 ?_
    refine wiload C X31 f0_170 rfl ?_
    refine wstatic C X31 (y := (⟨"com/example/arbor_center/arborcenter/objective/UpperEnvelopeAddPinLaw", "d", "(I)J"⟩ : MethodName)) (tw_27 hw) (tw_28 hw) (tw_24 hw) (tw_29 hw) (by decide) (rm5 l Z a0 hw [] l4 T26.heap n0 q32) eq31 f0_172 (argsL := [(.int l4)]) (rest := [(.double (FP.l2d ((1 : Int32) + (l4 &&& (65535 : Int32))).toInt64)), (.ref b6)]) rfl rfl (lenOf pd_0 rfl) rfl (W := 3) (Nat.le_of_eq rfl) (by decide) (by decide) (by decide) (by decide) ?_
    intro v33 T33 L33 X33 q33
    obtain ⟨rfl, Nq33, eq33⟩ := q33
    have N33 := Fr.app N31 Nq33
    show Go p e below s _ _ _ T33 (mkF m 175 #[.val (.int x1), .val (.int x2), .val (.int l1), .val (.int l2), .val (.int l3), .val (.int l4), .val (.int (1 : Int32)), .val (.long p0), .second, .val (.long p1), .second, .val (.long p2), .second, .val (.long p3), .second, .val (.ref b1), .val (.ref b6), .unset] [(.long ((l4.toUInt32 >>> ((16 : Int32) &&& 31).toUInt32).toInt32 &&& (32767 : Int32)).toInt64), (.double (FP.l2d ((1 : Int32) + (l4 &&& (65535 : Int32))).toInt64)), (.ref b6)])
    refine wl2d C X33 f0_175 ?_
    refine wvirtual C X33 (y := (⟨"com/example/arbor_center/arborcenter/objective/UpperEnvelope", "add", "(DD)V"⟩ : MethodName)) (z := (⟨"com/example/arbor_center/arborcenter/objective/UpperEnvelope", "add", "(DD)V"⟩ : MethodName)) (tw_30 hw) (tw_31 hw) (notFace_of_selects (args := #[]) (mvT C.2.1 (tw_33 hw))) (tw_33 hw) (tw_32 hw) (tw_34 hw) (tw_3 hw) (by decide) (rm6 l Z a0 hw [] b6 (FP.l2d ((1 : Int32) + (l4 &&& (65535 : Int32))).toInt64) (FP.l2d ((l4.toUInt32 >>> ((16 : Int32) &&& 31).toUInt32).toInt32 &&& (32767 : Int32)).toInt64) ph_9 pl_9 k1_9 k2_9 1 [(.double (FP.ddiv (FP.l2d p0) (4611686018427387904 : UInt64))), (.double (0 : UInt64)), (.double (0 : UInt64)), (.double (0 : UInt64))] (ls'_26) (own_P4 p0.toInt p1.toInt p2.toInt p3.toInt) (W'_26) (D'_26) (((1 : Int32) + (l4 &&& (65535 : Int32))).toInt64.toInt) (((l4.toUInt32 >>> ((16 : Int32) &&& 31).toUInt32).toInt32 &&& (32767 : Int32)).toInt64.toInt) T26.heap n0 q32 (q27.keep K26 (ninS ne13 nin0)) (q28.keep K26 (ninS ne13 nin0)) (q29.keep K26 (ninS ne13 nin0)) (q30.keep K26 (ninS G9_3 nin0)) G26_0 (Nat.le_trans Z0 szG9_2) ne13 G9_3 G26_1 (own_Ps4 (by decide) (fun _ => own_l2p hp0 (by decide)) (fun q => absurd q (by decide)) (fun q => absurd q (by decide)) (fun q => absurd q (by decide))) (hm0 _ (by decide)) (by decide) (by decide) (own_wd (own_w l4) (own_d l4))) eq33 (a := b6) (((G10_0.keep K19).keep K23).keep K26) f0_176 (argsL := [(.double (FP.l2d ((1 : Int32) + (l4 &&& (65535 : Int32))).toInt64)), (.double (FP.l2d ((l4.toUInt32 >>> ((16 : Int32) &&& 31).toUInt32).toInt32 &&& (32767 : Int32)).toInt64))]) (rest := []) rfl rfl (lenOf pd_7 rfl) rfl (W := 0) (Nat.le_of_eq rfl) (by decide) (by decide) (by decide) (by decide) ?_
    intro v34 T34 L34 X34 q34
    obtain ⟨ls'_34, W'_34, D'_34, rfl, Nq34, K34, G34_0, G34_1, G34_2⟩ := q34
    have q35 := (Nat.le_trans (Nat.le_trans (Nat.le_trans q20 K19.1) K23.1) K26.1)
    have N34 := Fr.app N33 Nq34
    show Go p e below s _ _ _ T34 (mkF m 179 #[.val (.int x1), .val (.int x2), .val (.int l1), .val (.int l2), .val (.int l3), .val (.int l4), .val (.int (1 : Int32)), .val (.long p0), .second, .val (.long p1), .second, .val (.long p2), .second, .val (.long p3), .second, .val (.ref b1), .val (.ref b6), .unset] [])
    refine waload C X34 f0_179 rfl rfl ?_
    refine wiconst C X34 f0_181 (0 : Int32) rfl ?_
    refine wlload C X34 f0_182 rfl ?_
    refine wiloadN C X34 f0_184 rfl ?_
    refine wiloadN C X34 f0_185 rfl ?_
    refine wiload C X34 f0_186 rfl ?_
    refine wiload C X34 f0_188 rfl ?_
    refine wstatic C X34 (y := (⟨"com/example/arbor_center/arborcenter/objective/UpperEnvelopeAddPinLaw", "check", "(Lcom/example/arbor_center/arborcenter/objective/UpperEnvelope;IJIIII)Z"⟩ : MethodName)) (tw_35 hw) (tw_36 hw) (tw_24 hw) (tw_37 hw) (by decide) (rm7_1_0 l Z a0 hw [] b6 (0 : Int32) p0 l1 l2 l3 l4 ph_9 pl_9 k1_9 k2_9 [(.double (FP.ddiv (FP.l2d p0) (4611686018427387904 : UInt64))), (.double (0 : UInt64)), (.double (0 : UInt64)), (.double (0 : UInt64))] (ls'_34) (own_P4 p0.toInt p1.toInt p2.toInt p3.toInt) (W'_34) (D'_34) T34.heap n0 (Nat.le_trans q32 K34.1) ((((G10_0.keep K19).keep K23).keep K26).keep K34) ((q27.keep K26 (ninS ne13 nin0)).keep K34 (ninS ne13 nin0)) ((q28.keep K26 (ninS ne13 nin0)).keep K34 (ninS ne13 nin0)) ((q29.keep K26 (ninS ne13 nin0)).keep K34 (ninS ne13 nin0)) ((q30.keep K26 (ninS G9_3 nin0)).keep K34 (ninS G9_3 nin0)) G34_0 rfl G34_1 (own_Ps4 (by decide) (fun _ => own_l2p hp0 (by decide)) (fun q => absurd q (by decide)) (fun q => absurd q (by decide)) (fun q => absurd q (by decide))) (own_fin (G19_2 0 (by decide)) (G23_2 0 (by decide)) (G26_2 0 (by decide)) (G34_2 0 (by decide)) (by simp [own_pm, own_upd]) mm0.2.1 hB0.1) hB0.2) rfl f0_190 (argsL := [(.ref b6), (.int (0 : Int32)), (.long p0), (.int l1), (.int l2), (.int l3), (.int l4)]) (rest := []) rfl rfl (lenOf pd_8 rfl) rfl (W := 0) (Nat.le_of_eq rfl) (by decide) (by decide) (by decide) (by decide) ?_
    intro v36 T36 L36 X36 q36
    obtain ⟨rfl, Nq36, eq36⟩ := q36
    have N36 := Fr.app N34 Nq36
    show Go p e below s _ _ _ T36 (mkF m 193 #[.val (.int x1), .val (.int x2), .val (.int l1), .val (.int l2), .val (.int l3), .val (.int l4), .val (.int (1 : Int32)), .val (.long p0), .second, .val (.long p1), .second, .val (.long p2), .second, .val (.long p3), .second, .val (.ref b1), .val (.ref b6), .unset] [(.int (1 : Int32))])
    refine wistore C X36 f0_193 #[.val (.int x1), .val (.int x2), .val (.int l1), .val (.int l2), .val (.int l3), .val (.int l4), .val (.int (1 : Int32)), .val (.long p0), .second, .val (.long p1), .second, .val (.long p2), .second, .val (.long p3), .second, .val (.ref b1), .val (.ref b6), .val (.int (1 : Int32))] rfl ?_
    refine wiload C X36 f0_195 rfl ?_
    refine wiconst C X36 f0_197 (1 : Int32) rfl ?_
    refine wicmp_le C X36 f0_198 (fun q => absurd q (by decide : ¬ ((1 : Int32) < (1 : Int32)))) ?_
    intro _
    refine wiload C X36 f0_230 rfl ?_
    refine wiconst C X36 f0_232 (2 : Int32) rfl ?_
    refine wicmp_le C X36 f0_233 (fun q => absurd q (by decide : ¬ ((2 : Int32) < (1 : Int32)))) ?_
    intro _
    refine wiload C X36 f0_265 rfl ?_
    refine wiconst C X36 f0_267 (3 : Int32) rfl ?_
    refine wicmp_le C X36 f0_268 (fun q => absurd q (by decide : ¬ ((3 : Int32) < (1 : Int32)))) ?_
    intro _
    refine wiload C X36 f0_300 rfl ?_
    refine wiretN C X36 (t := .boolean) (by simp) f0_302 rfl (1 : Int32) (by decide) (by decide) (by decide) ?_
    rw [eq36]
    exact ⟨rfl, N36⟩
  · have ne38 : b1 ≠ b6 := (Nat.ne_of_lt (Nat.lt_of_lt_of_le (Nat.lt_of_lt_of_eq (Nat.lt_of_lt_of_eq (Nat.lt_of_lt_of_eq (Nat.lt_of_lt_of_eq Vp1.lt W2.size.symm) W3.size.symm) W4.size.symm) W5.size.symm) (Nat.le_of_eq g6.symm)))
    have ne39 : b6 ≠ ph_9 := (Nat.ne_of_lt (Nat.lt_of_lt_of_le A6.lt G9_1))
    have ne40 : b6 ≠ pl_9 := (Nat.ne_of_lt (Nat.lt_of_lt_of_le A6.lt G9_2))
    have ne41 : b1 ≠ ph_9 := (Nat.ne_of_lt (Nat.lt_of_lt_of_le (Nat.lt_of_lt_of_le (Nat.lt_of_lt_of_eq (Nat.lt_of_lt_of_eq (Nat.lt_of_lt_of_eq (Nat.lt_of_lt_of_eq Vp1.lt W2.size.symm) W3.size.symm) W4.size.symm) W5.size.symm) E6.1) G9_1))
    have ne42 : b1 ≠ pl_9 := (Nat.ne_of_lt (Nat.lt_of_lt_of_le (Nat.lt_of_lt_of_le (Nat.lt_of_lt_of_eq (Nat.lt_of_lt_of_eq (Nat.lt_of_lt_of_eq (Nat.lt_of_lt_of_eq Vp1.lt W2.size.symm) W3.size.symm) W4.size.symm) W5.size.symm) E6.1) G9_2))
    refine wvirtual C X9 (y := (⟨"com/example/arbor_center/arborcenter/objective/UpperEnvelope", "reset", "([DI)V"⟩ : MethodName)) (z := (⟨"com/example/arbor_center/arborcenter/objective/UpperEnvelope", "reset", "([DI)V"⟩ : MethodName)) (tw_14 hw) (tw_15 hw) (notFace_of_selects (args := #[]) (mvT C.2.1 (tw_17 hw))) (tw_17 hw) (tw_16 hw) (tw_18 hw) (tw_3 hw) (by decide) (rm3_2 l Z a0 hw [] b6 b1 (2 : Int32) ph_9 pl_9 k1_9 k2_9 k1 (0 : Int32) [(.double (0 : UInt64)), (.double (0 : UInt64)), (.double (0 : UInt64)), (.double (0 : UInt64)), (.double (0 : UInt64)), (.double (0 : UInt64)), (.double (0 : UInt64)), (.double (0 : UInt64)), (.double (0 : UInt64)), (.double (0 : UInt64)), (.double (0 : UInt64)), (.double (0 : UInt64)), (.double (0 : UInt64)), (.double (0 : UInt64))] (0 : UInt64) (0 : UInt64) (0 : UInt64) (0 : UInt64) (FP.l2d p0) (FP.l2d p1) (FP.l2d p2) (FP.l2d p3) T9.heap n0 (Nat.le_trans (Nat.le_trans q7 E6.1) K9.1) G9_0 G9_4 G9_5 G9_6 G9_7 G9_8 ((V5.ext E6).keep K9 (ninS ne38 nin0)) (Nat.le_trans Z0 sz6) (Nat.le_trans Z0 szG9_1) (Nat.le_trans Z0 szG9_2) ne39 ne40 G9_3 ne38 ne41 ne42 rfl rfl hd_0 hd_1) rfl (a := b6) G9_0 f0_112 (argsL := [(.ref b1), (.int (2 : Int32))]) (rest := []) rfl rfl (lenOf pd_6 rfl) rfl (W := 0) (Nat.le_of_eq rfl) (by decide) (by decide) (by decide) (by decide) ?_
    intro v37 T37 L37 X37 q37
    obtain ⟨rfl, Nq37, K37, G37_0, G37_1, G37_2, G37_3, G37_4, G37_5⟩ := q37
    have N37 := Fr.app N9 Nq37
    show Go p e below s _ _ _ T37 (mkF m 115 #[.val (.int x1), .val (.int x2), .val (.int l1), .val (.int l2), .val (.int l3), .val (.int l4), .val (.int (2 : Int32)), .val (.long p0), .second, .val (.long p1), .second, .val (.long p2), .second, .val (.long p3), .second, .val (.ref b1), .val (.ref b6), .unset] [])
    refine waload C X37 f0_115 rfl rfl ?_
    refine wiloadN C X37 f0_117 rfl ?_
    have q44 := (Nat.le_trans (Nat.le_trans (Nat.le_trans q7 E6.1) K9.1) K37.1)
    refine wstatic C X37 (y := (⟨"com/example/arbor_center/arborcenter/objective/UpperEnvelopeAddPinLaw", "w", "(I)J"⟩ : MethodName)) (tw_22 hw) (tw_23 hw) (tw_24 hw) (tw_25 hw) (by decide) (rm4 l Z a0 hw [] l1 T37.heap n0 q44) rfl f0_118 (argsL := [(.int l1)]) (rest := [(.ref b6)]) rfl rfl (lenOf pd_0 rfl) rfl (W := 1) (Nat.le_of_eq rfl) (by decide) (by decide) (by decide) (by decide) ?_
    intro v43 T43 L43 X43 q43
    obtain ⟨rfl, Nq43, eq43⟩ := q43
    have N43 := Fr.app N37 Nq43
    show Go p e below s _ _ _ T43 (mkF m 121 #[.val (.int x1), .val (.int x2), .val (.int l1), .val (.int l2), .val (.int l3), .val (.int l4), .val (.int (2 : Int32)), .val (.long p0), .second, .val (.long p1), .second, .val (.long p2), .second, .val (.long p3), .second, .val (.ref b1), .val (.ref b6), .unset] [(.long ((1 : Int32) + (l1 &&& (65535 : Int32))).toInt64), (.ref b6)])
    refine wl2d C X43 f0_121 ?_
    refine wiloadN C X43 f0_122 rfl ?_
    refine wstatic C X43 (y := (⟨"com/example/arbor_center/arborcenter/objective/UpperEnvelopeAddPinLaw", "d", "(I)J"⟩ : MethodName)) (tw_27 hw) (tw_28 hw) (tw_24 hw) (tw_29 hw) (by decide) (rm5 l Z a0 hw [] l1 T37.heap n0 q44) eq43 f0_123 (argsL := [(.int l1)]) (rest := [(.double (FP.l2d ((1 : Int32) + (l1 &&& (65535 : Int32))).toInt64)), (.ref b6)]) rfl rfl (lenOf pd_0 rfl) rfl (W := 3) (Nat.le_of_eq rfl) (by decide) (by decide) (by decide) (by decide) ?_
    intro v45 T45 L45 X45 q45
    obtain ⟨rfl, Nq45, eq45⟩ := q45
    have N45 := Fr.app N43 Nq45
    show Go p e below s _ _ _ T45 (mkF m 126 #[.val (.int x1), .val (.int x2), .val (.int l1), .val (.int l2), .val (.int l3), .val (.int l4), .val (.int (2 : Int32)), .val (.long p0), .second, .val (.long p1), .second, .val (.long p2), .second, .val (.long p3), .second, .val (.ref b1), .val (.ref b6), .unset] [(.long ((l1.toUInt32 >>> ((16 : Int32) &&& 31).toUInt32).toInt32 &&& (32767 : Int32)).toInt64), (.double (FP.l2d ((1 : Int32) + (l1 &&& (65535 : Int32))).toInt64)), (.ref b6)])
    refine wl2d C X45 f0_126 ?_
    refine wvirtual C X45 (y := (⟨"com/example/arbor_center/arborcenter/objective/UpperEnvelope", "add", "(DD)V"⟩ : MethodName)) (z := (⟨"com/example/arbor_center/arborcenter/objective/UpperEnvelope", "add", "(DD)V"⟩ : MethodName)) (tw_30 hw) (tw_31 hw) (notFace_of_selects (args := #[]) (mvT C.2.1 (tw_33 hw))) (tw_33 hw) (tw_32 hw) (tw_34 hw) (tw_3 hw) (by decide) (rm6 l Z a0 hw [] b6 (FP.l2d ((1 : Int32) + (l1 &&& (65535 : Int32))).toInt64) (FP.l2d ((l1.toUInt32 >>> ((16 : Int32) &&& 31).toUInt32).toInt32 &&& (32767 : Int32)).toInt64) ph_9 pl_9 k1_9 k2_9 2 [(.double (FP.ddiv (FP.l2d p0) (4611686018427387904 : UInt64))), (.double (FP.ddiv (FP.l2d p1) (4611686018427387904 : UInt64))), (.double (0 : UInt64)), (.double (0 : UInt64))] _ (own_P4 p0.toInt p1.toInt p2.toInt p3.toInt) (own_upd (own_upd (own_upd (fun _ => 0) 0 0) 1 0) 2 0) (own_upd (own_upd (own_upd (fun _ => 0) 0 0) 1 0) 2 0) (((1 : Int32) + (l1 &&& (65535 : Int32))).toInt64.toInt) (((l1.toUInt32 >>> ((16 : Int32) &&& 31).toUInt32).toInt32 &&& (32767 : Int32)).toInt64.toInt) T37.heap n0 q44 G37_1 G37_2 G37_3 G37_4 G37_5 (Nat.le_trans Z0 szG9_2) ne40 G9_3 (own_Lz 2 (own_Lz 1 (own_Lz 0 own_Ls0 (by decide) rfl rfl) (by decide) rfl rfl) (by decide) rfl rfl) (own_Ps4 (by decide) (fun _ => own_l2p hp0 (by decide)) (fun _ => own_l2p hp1.2 (by decide)) (fun q => absurd q (by decide)) (fun q => absurd q (by decide))) (hm0 _ (by decide)) (by decide) (by decide) (own_wd (own_w l1) (own_d l1))) eq45 (a := b6) G37_0 f0_127 (argsL := [(.double (FP.l2d ((1 : Int32) + (l1 &&& (65535 : Int32))).toInt64)), (.double (FP.l2d ((l1.toUInt32 >>> ((16 : Int32) &&& 31).toUInt32).toInt32 &&& (32767 : Int32)).toInt64))]) (rest := []) rfl rfl (lenOf pd_7 rfl) rfl (W := 0) (Nat.le_of_eq rfl) (by decide) (by decide) (by decide) (by decide) ?_
    intro v46 T46 L46 X46 q46
    obtain ⟨ls'_46, W'_46, D'_46, rfl, Nq46, K46, G46_0, G46_1, G46_2⟩ := q46
    have q47 := (Nat.le_trans (Nat.le_trans (Nat.le_trans q8 E6.1) K9.1) K37.1)
    have N46 := Fr.app N45 Nq46
    show Go p e below s _ _ _ T46 (mkF m 130 #[.val (.int x1), .val (.int x2), .val (.int l1), .val (.int l2), .val (.int l3), .val (.int l4), .val (.int (2 : Int32)), .val (.long p0), .second, .val (.long p1), .second, .val (.long p2), .second, .val (.long p3), .second, .val (.ref b1), .val (.ref b6), .unset] [])
    refine waload C X46 f0_130 rfl rfl ?_
    refine wiloadN C X46 f0_132 rfl ?_
    refine wstatic C X46 (y := (⟨"com/example/arbor_center/arborcenter/objective/UpperEnvelopeAddPinLaw", "w", "(I)J"⟩ : MethodName)) (tw_22 hw) (tw_23 hw) (tw_24 hw) (tw_25 hw) (by decide) (rm4 l Z a0 hw [] l2 T46.heap n0 (Nat.le_trans q44 K46.1)) rfl f0_133 (argsL := [(.int l2)]) (rest := [(.ref b6)]) rfl rfl (lenOf pd_0 rfl) rfl (W := 1) (Nat.le_of_eq rfl) (by decide) (by decide) (by decide) (by decide) ?_
    intro v48 T48 L48 X48 q48
    obtain ⟨rfl, Nq48, eq48⟩ := q48
    have N48 := Fr.app N46 Nq48
    show Go p e below s _ _ _ T48 (mkF m 136 #[.val (.int x1), .val (.int x2), .val (.int l1), .val (.int l2), .val (.int l3), .val (.int l4), .val (.int (2 : Int32)), .val (.long p0), .second, .val (.long p1), .second, .val (.long p2), .second, .val (.long p3), .second, .val (.ref b1), .val (.ref b6), .unset] [(.long ((1 : Int32) + (l2 &&& (65535 : Int32))).toInt64), (.ref b6)])
    refine wl2d C X48 f0_136 ?_
    refine wiloadN C X48 f0_137 rfl ?_
    refine wstatic C X48 (y := (⟨"com/example/arbor_center/arborcenter/objective/UpperEnvelopeAddPinLaw", "d", "(I)J"⟩ : MethodName)) (tw_27 hw) (tw_28 hw) (tw_24 hw) (tw_29 hw) (by decide) (rm5 l Z a0 hw [] l2 T46.heap n0 (Nat.le_trans q44 K46.1)) eq48 f0_138 (argsL := [(.int l2)]) (rest := [(.double (FP.l2d ((1 : Int32) + (l2 &&& (65535 : Int32))).toInt64)), (.ref b6)]) rfl rfl (lenOf pd_0 rfl) rfl (W := 3) (Nat.le_of_eq rfl) (by decide) (by decide) (by decide) (by decide) ?_
    intro v49 T49 L49 X49 q49
    obtain ⟨rfl, Nq49, eq49⟩ := q49
    have N49 := Fr.app N48 Nq49
    show Go p e below s _ _ _ T49 (mkF m 141 #[.val (.int x1), .val (.int x2), .val (.int l1), .val (.int l2), .val (.int l3), .val (.int l4), .val (.int (2 : Int32)), .val (.long p0), .second, .val (.long p1), .second, .val (.long p2), .second, .val (.long p3), .second, .val (.ref b1), .val (.ref b6), .unset] [(.long ((l2.toUInt32 >>> ((16 : Int32) &&& 31).toUInt32).toInt32 &&& (32767 : Int32)).toInt64), (.double (FP.l2d ((1 : Int32) + (l2 &&& (65535 : Int32))).toInt64)), (.ref b6)])
    refine wl2d C X49 f0_141 ?_
    refine wvirtual C X49 (y := (⟨"com/example/arbor_center/arborcenter/objective/UpperEnvelope", "add", "(DD)V"⟩ : MethodName)) (z := (⟨"com/example/arbor_center/arborcenter/objective/UpperEnvelope", "add", "(DD)V"⟩ : MethodName)) (tw_30 hw) (tw_31 hw) (notFace_of_selects (args := #[]) (mvT C.2.1 (tw_33 hw))) (tw_33 hw) (tw_32 hw) (tw_34 hw) (tw_3 hw) (by decide) (rm6 l Z a0 hw [] b6 (FP.l2d ((1 : Int32) + (l2 &&& (65535 : Int32))).toInt64) (FP.l2d ((l2.toUInt32 >>> ((16 : Int32) &&& 31).toUInt32).toInt32 &&& (32767 : Int32)).toInt64) ph_9 pl_9 k1_9 k2_9 2 [(.double (FP.ddiv (FP.l2d p0) (4611686018427387904 : UInt64))), (.double (FP.ddiv (FP.l2d p1) (4611686018427387904 : UInt64))), (.double (0 : UInt64)), (.double (0 : UInt64))] (ls'_46) (own_P4 p0.toInt p1.toInt p2.toInt p3.toInt) (W'_46) (D'_46) (((1 : Int32) + (l2 &&& (65535 : Int32))).toInt64.toInt) (((l2.toUInt32 >>> ((16 : Int32) &&& 31).toUInt32).toInt32 &&& (32767 : Int32)).toInt64.toInt) T46.heap n0 (Nat.le_trans q44 K46.1) (G37_1.keep K46 (ninS ne40 nin0)) (G37_2.keep K46 (ninS ne40 nin0)) (G37_3.keep K46 (ninS ne40 nin0)) (G37_4.keep K46 (ninS G9_3 nin0)) G46_0 (Nat.le_trans Z0 szG9_2) ne40 G9_3 G46_1 (own_Ps4 (by decide) (fun _ => own_l2p hp0 (by decide)) (fun _ => own_l2p hp1.2 (by decide)) (fun q => absurd q (by decide)) (fun q => absurd q (by decide))) (hm0 _ (by decide)) (by decide) (by decide) (own_wd (own_w l2) (own_d l2))) eq49 (a := b6) (G37_0.keep K46) f0_142 (argsL := [(.double (FP.l2d ((1 : Int32) + (l2 &&& (65535 : Int32))).toInt64)), (.double (FP.l2d ((l2.toUInt32 >>> ((16 : Int32) &&& 31).toUInt32).toInt32 &&& (32767 : Int32)).toInt64))]) (rest := []) rfl rfl (lenOf pd_7 rfl) rfl (W := 0) (Nat.le_of_eq rfl) (by decide) (by decide) (by decide) (by decide) ?_
    intro v50 T50 L50 X50 q50
    obtain ⟨ls'_50, W'_50, D'_50, rfl, Nq50, K50, G50_0, G50_1, G50_2⟩ := q50
    have N50 := Fr.app N49 Nq50
    show Go p e below s _ _ _ T50 (mkF m 145 #[.val (.int x1), .val (.int x2), .val (.int l1), .val (.int l2), .val (.int l3), .val (.int l4), .val (.int (2 : Int32)), .val (.long p0), .second, .val (.long p1), .second, .val (.long p2), .second, .val (.long p3), .second, .val (.ref b1), .val (.ref b6), .unset] [])
    refine waload C X50 f0_145 rfl rfl ?_
    refine wiload C X50 f0_147 rfl ?_
    refine wstatic C X50 (y := (⟨"com/example/arbor_center/arborcenter/objective/UpperEnvelopeAddPinLaw", "w", "(I)J"⟩ : MethodName)) (tw_22 hw) (tw_23 hw) (tw_24 hw) (tw_25 hw) (by decide) (rm4 l Z a0 hw [] l3 T50.heap n0 (Nat.le_trans (Nat.le_trans q44 K46.1) K50.1)) rfl f0_149 (argsL := [(.int l3)]) (rest := [(.ref b6)]) rfl rfl (lenOf pd_0 rfl) rfl (W := 1) (Nat.le_of_eq rfl) (by decide) (by decide) (by decide) (by decide) ?_
    intro v51 T51 L51 X51 q51
    obtain ⟨rfl, Nq51, eq51⟩ := q51
    have N51 := Fr.app N50 Nq51
    show Go p e below s _ _ _ T51 (mkF m 152 #[.val (.int x1), .val (.int x2), .val (.int l1), .val (.int l2), .val (.int l3), .val (.int l4), .val (.int (2 : Int32)), .val (.long p0), .second, .val (.long p1), .second, .val (.long p2), .second, .val (.long p3), .second, .val (.ref b1), .val (.ref b6), .unset] [(.long ((1 : Int32) + (l3 &&& (65535 : Int32))).toInt64), (.ref b6)])
    refine wl2d C X51 f0_152 ?_
    refine wiload C X51 f0_153 rfl ?_
    refine wstatic C X51 (y := (⟨"com/example/arbor_center/arborcenter/objective/UpperEnvelopeAddPinLaw", "d", "(I)J"⟩ : MethodName)) (tw_27 hw) (tw_28 hw) (tw_24 hw) (tw_29 hw) (by decide) (rm5 l Z a0 hw [] l3 T50.heap n0 (Nat.le_trans (Nat.le_trans q44 K46.1) K50.1)) eq51 f0_155 (argsL := [(.int l3)]) (rest := [(.double (FP.l2d ((1 : Int32) + (l3 &&& (65535 : Int32))).toInt64)), (.ref b6)]) rfl rfl (lenOf pd_0 rfl) rfl (W := 3) (Nat.le_of_eq rfl) (by decide) (by decide) (by decide) (by decide) ?_
    intro v52 T52 L52 X52 q52
    obtain ⟨rfl, Nq52, eq52⟩ := q52
    have N52 := Fr.app N51 Nq52
    show Go p e below s _ _ _ T52 (mkF m 158 #[.val (.int x1), .val (.int x2), .val (.int l1), .val (.int l2), .val (.int l3), .val (.int l4), .val (.int (2 : Int32)), .val (.long p0), .second, .val (.long p1), .second, .val (.long p2), .second, .val (.long p3), .second, .val (.ref b1), .val (.ref b6), .unset] [(.long ((l3.toUInt32 >>> ((16 : Int32) &&& 31).toUInt32).toInt32 &&& (32767 : Int32)).toInt64), (.double (FP.l2d ((1 : Int32) + (l3 &&& (65535 : Int32))).toInt64)), (.ref b6)])
    refine wl2d C X52 f0_158 ?_
    have q54 := ((G37_1.keep K46 (ninS ne40 nin0)).keep K50 (ninS ne40 nin0))
    have q55 := ((G37_2.keep K46 (ninS ne40 nin0)).keep K50 (ninS ne40 nin0))
    have q56 := ((G37_3.keep K46 (ninS ne40 nin0)).keep K50 (ninS ne40 nin0))
    have q57 := ((G37_4.keep K46 (ninS G9_3 nin0)).keep K50 (ninS G9_3 nin0))
    refine wvirtual C X52 (y := (⟨"com/example/arbor_center/arborcenter/objective/UpperEnvelope", "add", "(DD)V"⟩ : MethodName)) (z := (⟨"com/example/arbor_center/arborcenter/objective/UpperEnvelope", "add", "(DD)V"⟩ : MethodName)) (tw_30 hw) (tw_31 hw) (notFace_of_selects (args := #[]) (mvT C.2.1 (tw_33 hw))) (tw_33 hw) (tw_32 hw) (tw_34 hw) (tw_3 hw) (by decide) (rm6 l Z a0 hw [] b6 (FP.l2d ((1 : Int32) + (l3 &&& (65535 : Int32))).toInt64) (FP.l2d ((l3.toUInt32 >>> ((16 : Int32) &&& 31).toUInt32).toInt32 &&& (32767 : Int32)).toInt64) ph_9 pl_9 k1_9 k2_9 2 [(.double (FP.ddiv (FP.l2d p0) (4611686018427387904 : UInt64))), (.double (FP.ddiv (FP.l2d p1) (4611686018427387904 : UInt64))), (.double (0 : UInt64)), (.double (0 : UInt64))] (ls'_50) (own_P4 p0.toInt p1.toInt p2.toInt p3.toInt) (W'_50) (D'_50) (((1 : Int32) + (l3 &&& (65535 : Int32))).toInt64.toInt) (((l3.toUInt32 >>> ((16 : Int32) &&& 31).toUInt32).toInt32 &&& (32767 : Int32)).toInt64.toInt) T50.heap n0 (Nat.le_trans (Nat.le_trans q44 K46.1) K50.1) q54 q55 q56 q57 G50_0 (Nat.le_trans Z0 szG9_2) ne40 G9_3 G50_1 (own_Ps4 (by decide) (fun _ => own_l2p hp0 (by decide)) (fun _ => own_l2p hp1.2 (by decide)) (fun q => absurd q (by decide)) (fun q => absurd q (by decide))) (hm0 _ (by decide)) (by decide) (by decide) (own_wd (own_w l3) (own_d l3))) eq52 (a := b6) ((G37_0.keep K46).keep K50) f0_159 (argsL := [(.double (FP.l2d ((1 : Int32) + (l3 &&& (65535 : Int32))).toInt64)), (.double (FP.l2d ((l3.toUInt32 >>> ((16 : Int32) &&& 31).toUInt32).toInt32 &&& (32767 : Int32)).toInt64))]) (rest := []) rfl rfl (lenOf pd_7 rfl) rfl (W := 0) (Nat.le_of_eq rfl) (by decide) (by decide) (by decide) (by decide) ?_
    intro v53 T53 L53 X53 q53
    obtain ⟨ls'_53, W'_53, D'_53, rfl, Nq53, K53, G53_0, G53_1, G53_2⟩ := q53
    have N53 := Fr.app N52 Nq53
    show Go p e below s _ _ _ T53 (mkF m 162 #[.val (.int x1), .val (.int x2), .val (.int l1), .val (.int l2), .val (.int l3), .val (.int l4), .val (.int (2 : Int32)), .val (.long p0), .second, .val (.long p1), .second, .val (.long p2), .second, .val (.long p3), .second, .val (.ref b1), .val (.ref b6), .unset] [])
    refine waload C X53 f0_162 rfl rfl ?_
    refine wiload C X53 f0_164 rfl ?_
    have q59 := (Nat.le_trans (Nat.le_trans (Nat.le_trans q44 K46.1) K50.1) K53.1)
    refine wstatic C X53 (y := (⟨"com/example/arbor_center/arborcenter/objective/UpperEnvelopeAddPinLaw", "w", "(I)J"⟩ : MethodName)) (tw_22 hw) (tw_23 hw) (tw_24 hw) (tw_25 hw) (by decide) (rm4 l Z a0 hw [] l4 T53.heap n0 q59) rfl f0_166 (argsL := [(.int l4)]) (rest := [(.ref b6)]) rfl rfl (lenOf pd_0 rfl) rfl (W := 1) (Nat.le_of_eq rfl) (by decide) (by decide) (by decide) (by decide) ?_
    intro v58 T58 L58 X58 q58
    obtain ⟨rfl, Nq58, eq58⟩ := q58
    have N58 := Fr.app N53 Nq58
    show Go p e below s _ _ _ T58 (mkF m 169 #[.val (.int x1), .val (.int x2), .val (.int l1), .val (.int l2), .val (.int l3), .val (.int l4), .val (.int (2 : Int32)), .val (.long p0), .second, .val (.long p1), .second, .val (.long p2), .second, .val (.long p3), .second, .val (.ref b1), .val (.ref b6), .unset] [(.long ((1 : Int32) + (l4 &&& (65535 : Int32))).toInt64), (.ref b6)])
    refine wl2d C X58 f0_169 ?_
    refine wiload C X58 f0_170 rfl ?_
    refine wstatic C X58 (y := (⟨"com/example/arbor_center/arborcenter/objective/UpperEnvelopeAddPinLaw", "d", "(I)J"⟩ : MethodName)) (tw_27 hw) (tw_28 hw) (tw_24 hw) (tw_29 hw) (by decide) (rm5 l Z a0 hw [] l4 T53.heap n0 q59) eq58 f0_172 (argsL := [(.int l4)]) (rest := [(.double (FP.l2d ((1 : Int32) + (l4 &&& (65535 : Int32))).toInt64)), (.ref b6)]) rfl rfl (lenOf pd_0 rfl) rfl (W := 3) (Nat.le_of_eq rfl) (by decide) (by decide) (by decide) (by decide) ?_
    intro v60 T60 L60 X60 q60
    obtain ⟨rfl, Nq60, eq60⟩ := q60
    have N60 := Fr.app N58 Nq60
    show Go p e below s _ _ _ T60 (mkF m 175 #[.val (.int x1), .val (.int x2), .val (.int l1), .val (.int l2), .val (.int l3), .val (.int l4), .val (.int (2 : Int32)), .val (.long p0), .second, .val (.long p1), .second, .val (.long p2), .second, .val (.long p3), .second, .val (.ref b1), .val (.ref b6), .unset] [(.long ((l4.toUInt32 >>> ((16 : Int32) &&& 31).toUInt32).toInt32 &&& (32767 : Int32)).toInt64), (.double (FP.l2d ((1 : Int32) + (l4 &&& (65535 : Int32))).toInt64)), (.ref b6)])
    refine wl2d C X60 f0_175 ?_
    refine wvirtual C X60 (y := (⟨"com/example/arbor_center/arborcenter/objective/UpperEnvelope", "add", "(DD)V"⟩ : MethodName)) (z := (⟨"com/example/arbor_center/arborcenter/objective/UpperEnvelope", "add", "(DD)V"⟩ : MethodName)) (tw_30 hw) (tw_31 hw) (notFace_of_selects (args := #[]) (mvT C.2.1 (tw_33 hw))) (tw_33 hw) (tw_32 hw) (tw_34 hw) (tw_3 hw) (by decide) (rm6 l Z a0 hw [] b6 (FP.l2d ((1 : Int32) + (l4 &&& (65535 : Int32))).toInt64) (FP.l2d ((l4.toUInt32 >>> ((16 : Int32) &&& 31).toUInt32).toInt32 &&& (32767 : Int32)).toInt64) ph_9 pl_9 k1_9 k2_9 2 [(.double (FP.ddiv (FP.l2d p0) (4611686018427387904 : UInt64))), (.double (FP.ddiv (FP.l2d p1) (4611686018427387904 : UInt64))), (.double (0 : UInt64)), (.double (0 : UInt64))] (ls'_53) (own_P4 p0.toInt p1.toInt p2.toInt p3.toInt) (W'_53) (D'_53) (((1 : Int32) + (l4 &&& (65535 : Int32))).toInt64.toInt) (((l4.toUInt32 >>> ((16 : Int32) &&& 31).toUInt32).toInt32 &&& (32767 : Int32)).toInt64.toInt) T53.heap n0 q59 (q54.keep K53 (ninS ne40 nin0)) (q55.keep K53 (ninS ne40 nin0)) (q56.keep K53 (ninS ne40 nin0)) (q57.keep K53 (ninS G9_3 nin0)) G53_0 (Nat.le_trans Z0 szG9_2) ne40 G9_3 G53_1 (own_Ps4 (by decide) (fun _ => own_l2p hp0 (by decide)) (fun _ => own_l2p hp1.2 (by decide)) (fun q => absurd q (by decide)) (fun q => absurd q (by decide))) (hm0 _ (by decide)) (by decide) (by decide) (own_wd (own_w l4) (own_d l4))) eq60 (a := b6) (((G37_0.keep K46).keep K50).keep K53) f0_176 (argsL := [(.double (FP.l2d ((1 : Int32) + (l4 &&& (65535 : Int32))).toInt64)), (.double (FP.l2d ((l4.toUInt32 >>> ((16 : Int32) &&& 31).toUInt32).toInt32 &&& (32767 : Int32)).toInt64))]) (rest := []) rfl rfl (lenOf pd_7 rfl) rfl (W := 0) (Nat.le_of_eq rfl) (by decide) (by decide) (by decide) (by decide) ?_
    intro v61 T61 L61 X61 q61
    obtain ⟨ls'_61, W'_61, D'_61, rfl, Nq61, K61, G61_0, G61_1, G61_2⟩ := q61
    have q62 := (Nat.le_trans (Nat.le_trans (Nat.le_trans q47 K46.1) K50.1) K53.1)
    have N61 := Fr.app N60 Nq61
    show Go p e below s _ _ _ T61 (mkF m 179 #[.val (.int x1), .val (.int x2), .val (.int l1), .val (.int l2), .val (.int l3), .val (.int l4), .val (.int (2 : Int32)), .val (.long p0), .second, .val (.long p1), .second, .val (.long p2), .second, .val (.long p3), .second, .val (.ref b1), .val (.ref b6), .unset] [])
    refine waload C X61 f0_179 rfl rfl ?_
    refine wiconst C X61 f0_181 (0 : Int32) rfl ?_
    refine wlload C X61 f0_182 rfl ?_
    refine wiloadN C X61 f0_184 rfl ?_
    refine wiloadN C X61 f0_185 rfl ?_
    refine wiload C X61 f0_186 rfl ?_
    refine wiload C X61 f0_188 rfl ?_
    refine wstatic C X61 (y := (⟨"com/example/arbor_center/arborcenter/objective/UpperEnvelopeAddPinLaw", "check", "(Lcom/example/arbor_center/arborcenter/objective/UpperEnvelope;IJIIII)Z"⟩ : MethodName)) (tw_35 hw) (tw_36 hw) (tw_24 hw) (tw_37 hw) (by decide) (rm7_2_0 l Z a0 hw [] b6 (0 : Int32) p0 l1 l2 l3 l4 ph_9 pl_9 k1_9 k2_9 [(.double (FP.ddiv (FP.l2d p0) (4611686018427387904 : UInt64))), (.double (FP.ddiv (FP.l2d p1) (4611686018427387904 : UInt64))), (.double (0 : UInt64)), (.double (0 : UInt64))] (ls'_61) (own_P4 p0.toInt p1.toInt p2.toInt p3.toInt) (W'_61) (D'_61) T61.heap n0 (Nat.le_trans q59 K61.1) ((((G37_0.keep K46).keep K50).keep K53).keep K61) ((q54.keep K53 (ninS ne40 nin0)).keep K61 (ninS ne40 nin0)) ((q55.keep K53 (ninS ne40 nin0)).keep K61 (ninS ne40 nin0)) ((q56.keep K53 (ninS ne40 nin0)).keep K61 (ninS ne40 nin0)) ((q57.keep K53 (ninS G9_3 nin0)).keep K61 (ninS G9_3 nin0)) G61_0 rfl G61_1 (own_Ps4 (by decide) (fun _ => own_l2p hp0 (by decide)) (fun _ => own_l2p hp1.2 (by decide)) (fun q => absurd q (by decide)) (fun q => absurd q (by decide))) (own_fin (G46_2 0 (by decide)) (G50_2 0 (by decide)) (G53_2 0 (by decide)) (G61_2 0 (by decide)) (by simp [own_pm, own_upd]) mm0.2.1 hB0.1) hB0.2) rfl f0_190 (argsL := [(.ref b6), (.int (0 : Int32)), (.long p0), (.int l1), (.int l2), (.int l3), (.int l4)]) (rest := []) rfl rfl (lenOf pd_8 rfl) rfl (W := 0) (Nat.le_of_eq rfl) (by decide) (by decide) (by decide) (by decide) ?_
    intro v63 T63 L63 X63 q63
    obtain ⟨rfl, Nq63, eq63⟩ := q63
    have N63 := Fr.app N61 Nq63
    show Go p e below s _ _ _ T63 (mkF m 193 #[.val (.int x1), .val (.int x2), .val (.int l1), .val (.int l2), .val (.int l3), .val (.int l4), .val (.int (2 : Int32)), .val (.long p0), .second, .val (.long p1), .second, .val (.long p2), .second, .val (.long p3), .second, .val (.ref b1), .val (.ref b6), .unset] [(.int (1 : Int32))])
    refine wistore C X63 f0_193 #[.val (.int x1), .val (.int x2), .val (.int l1), .val (.int l2), .val (.int l3), .val (.int l4), .val (.int (2 : Int32)), .val (.long p0), .second, .val (.long p1), .second, .val (.long p2), .second, .val (.long p3), .second, .val (.ref b1), .val (.ref b6), .val (.int (1 : Int32))] rfl ?_
    refine wiload C X63 f0_195 rfl ?_
    refine wiconst C X63 f0_197 (1 : Int32) rfl ?_
    refine wicmp_le C X63 f0_198 ?_ (fun q => absurd (by decide : ((1 : Int32) < (2 : Int32))) q)
    intro _
    refine wiload C X63 f0_201 rfl ?_
    refine wif_eq C X63 f0_203 (fun q => absurd q (by decide : ¬ ((1 : Int32) = (0 : Int32)))) ?_
    intro _
    refine waload C X63 f0_206 rfl rfl ?_
    refine wiconst C X63 f0_208 (1 : Int32) rfl ?_
    refine wlload C X63 f0_209 rfl ?_
    refine wiloadN C X63 f0_211 rfl ?_
    refine wiloadN C X63 f0_212 rfl ?_
    refine wiload C X63 f0_213 rfl ?_
    refine wiload C X63 f0_215 rfl ?_
    refine wstatic C X63 (y := (⟨"com/example/arbor_center/arborcenter/objective/UpperEnvelopeAddPinLaw", "check", "(Lcom/example/arbor_center/arborcenter/objective/UpperEnvelope;IJIIII)Z"⟩ : MethodName)) (tw_35 hw) (tw_36 hw) (tw_24 hw) (tw_37 hw) (by decide) (rm7_2_1 l Z a0 hw [] b6 (1 : Int32) p1 l1 l2 l3 l4 ph_9 pl_9 k1_9 k2_9 [(.double (FP.ddiv (FP.l2d p0) (4611686018427387904 : UInt64))), (.double (FP.ddiv (FP.l2d p1) (4611686018427387904 : UInt64))), (.double (0 : UInt64)), (.double (0 : UInt64))] (ls'_61) (own_P4 p0.toInt p1.toInt p2.toInt p3.toInt) (W'_61) (D'_61) T61.heap n0 (Nat.le_trans q59 K61.1) ((((G37_0.keep K46).keep K50).keep K53).keep K61) ((q54.keep K53 (ninS ne40 nin0)).keep K61 (ninS ne40 nin0)) ((q55.keep K53 (ninS ne40 nin0)).keep K61 (ninS ne40 nin0)) ((q56.keep K53 (ninS ne40 nin0)).keep K61 (ninS ne40 nin0)) ((q57.keep K53 (ninS G9_3 nin0)).keep K61 (ninS G9_3 nin0)) G61_0 rfl G61_1 (own_Ps4 (by decide) (fun _ => own_l2p hp0 (by decide)) (fun _ => own_l2p hp1.2 (by decide)) (fun q => absurd q (by decide)) (fun q => absurd q (by decide))) (own_fin (G46_2 1 (by decide)) (G50_2 1 (by decide)) (G53_2 1 (by decide)) (G61_2 1 (by decide)) (by simp [own_pm, own_upd]) mm1.2.1 hB1.1) hB1.2) eq63 f0_217 (argsL := [(.ref b6), (.int (1 : Int32)), (.long p1), (.int l1), (.int l2), (.int l3), (.int l4)]) (rest := []) rfl rfl (lenOf pd_8 rfl) rfl (W := 0) (Nat.le_of_eq rfl) (by decide) (by decide) (by decide) (by decide) ?_
    intro v64 T64 L64 X64 q64
    obtain ⟨rfl, Nq64, eq64⟩ := q64
    have N64 := Fr.app N63 Nq64
    show Go p e below s _ _ _ T64 (mkF m 220 #[.val (.int x1), .val (.int x2), .val (.int l1), .val (.int l2), .val (.int l3), .val (.int l4), .val (.int (2 : Int32)), .val (.long p0), .second, .val (.long p1), .second, .val (.long p2), .second, .val (.long p3), .second, .val (.ref b1), .val (.ref b6), .val (.int (1 : Int32))] [(.int (1 : Int32))])
    refine wif_eq C X64 f0_220 (fun q => absurd q (by decide : ¬ ((1 : Int32) = (0 : Int32)))) ?_
    intro _
    refine wiconst C X64 f0_223 (1 : Int32) rfl ?_
    refine wgoto C X64 f0_224 ?_
    refine wistore C X64 f0_228 #[.val (.int x1), .val (.int x2), .val (.int l1), .val (.int l2), .val (.int l3), .val (.int l4), .val (.int (2 : Int32)), .val (.long p0), .second, .val (.long p1), .second, .val (.long p2), .second, .val (.long p3), .second, .val (.ref b1), .val (.ref b6), .val (.int (1 : Int32))] rfl ?_
    refine wiload C X64 f0_230 rfl ?_
    refine wiconst C X64 f0_232 (2 : Int32) rfl ?_
    refine wicmp_le C X64 f0_233 (fun q => absurd q (by decide : ¬ ((2 : Int32) < (2 : Int32)))) ?_
    intro _
    refine wiload C X64 f0_265 rfl ?_
    refine wiconst C X64 f0_267 (3 : Int32) rfl ?_
    refine wicmp_le C X64 f0_268 (fun q => absurd q (by decide : ¬ ((3 : Int32) < (2 : Int32)))) ?_
    intro _
    refine wiload C X64 f0_300 rfl ?_
    refine wiretN C X64 (t := .boolean) (by simp) f0_302 rfl (1 : Int32) (by decide) (by decide) (by decide) ?_
    rw [eq64]
    exact ⟨rfl, N64⟩
  · have ne66 : b1 ≠ b6 := (Nat.ne_of_lt (Nat.lt_of_lt_of_le (Nat.lt_of_lt_of_eq (Nat.lt_of_lt_of_eq (Nat.lt_of_lt_of_eq (Nat.lt_of_lt_of_eq Vp1.lt W2.size.symm) W3.size.symm) W4.size.symm) W5.size.symm) (Nat.le_of_eq g6.symm)))
    have ne67 : b6 ≠ ph_9 := (Nat.ne_of_lt (Nat.lt_of_lt_of_le A6.lt G9_1))
    have ne68 : b6 ≠ pl_9 := (Nat.ne_of_lt (Nat.lt_of_lt_of_le A6.lt G9_2))
    have ne69 : b1 ≠ ph_9 := (Nat.ne_of_lt (Nat.lt_of_lt_of_le (Nat.lt_of_lt_of_le (Nat.lt_of_lt_of_eq (Nat.lt_of_lt_of_eq (Nat.lt_of_lt_of_eq (Nat.lt_of_lt_of_eq Vp1.lt W2.size.symm) W3.size.symm) W4.size.symm) W5.size.symm) E6.1) G9_1))
    have ne70 : b1 ≠ pl_9 := (Nat.ne_of_lt (Nat.lt_of_lt_of_le (Nat.lt_of_lt_of_le (Nat.lt_of_lt_of_eq (Nat.lt_of_lt_of_eq (Nat.lt_of_lt_of_eq (Nat.lt_of_lt_of_eq Vp1.lt W2.size.symm) W3.size.symm) W4.size.symm) W5.size.symm) E6.1) G9_2))
    refine wvirtual C X9 (y := (⟨"com/example/arbor_center/arborcenter/objective/UpperEnvelope", "reset", "([DI)V"⟩ : MethodName)) (z := (⟨"com/example/arbor_center/arborcenter/objective/UpperEnvelope", "reset", "([DI)V"⟩ : MethodName)) (tw_14 hw) (tw_15 hw) (notFace_of_selects (args := #[]) (mvT C.2.1 (tw_17 hw))) (tw_17 hw) (tw_16 hw) (tw_18 hw) (tw_3 hw) (by decide) (rm3_3 l Z a0 hw [] b6 b1 (3 : Int32) ph_9 pl_9 k1_9 k2_9 k1 (0 : Int32) [(.double (0 : UInt64)), (.double (0 : UInt64)), (.double (0 : UInt64)), (.double (0 : UInt64)), (.double (0 : UInt64)), (.double (0 : UInt64)), (.double (0 : UInt64)), (.double (0 : UInt64)), (.double (0 : UInt64)), (.double (0 : UInt64)), (.double (0 : UInt64)), (.double (0 : UInt64)), (.double (0 : UInt64)), (.double (0 : UInt64))] (0 : UInt64) (0 : UInt64) (0 : UInt64) (0 : UInt64) (FP.l2d p0) (FP.l2d p1) (FP.l2d p2) (FP.l2d p3) T9.heap n0 (Nat.le_trans (Nat.le_trans q7 E6.1) K9.1) G9_0 G9_4 G9_5 G9_6 G9_7 G9_8 ((V5.ext E6).keep K9 (ninS ne66 nin0)) (Nat.le_trans Z0 sz6) (Nat.le_trans Z0 szG9_1) (Nat.le_trans Z0 szG9_2) ne67 ne68 G9_3 ne66 ne69 ne70 rfl rfl hd_0 hd_1 hd_2) rfl (a := b6) G9_0 f0_112 (argsL := [(.ref b1), (.int (3 : Int32))]) (rest := []) rfl rfl (lenOf pd_6 rfl) rfl (W := 0) (Nat.le_of_eq rfl) (by decide) (by decide) (by decide) (by decide) ?_
    intro v65 T65 L65 X65 q65
    obtain ⟨rfl, Nq65, K65, G65_0, G65_1, G65_2, G65_3, G65_4, G65_5⟩ := q65
    have N65 := Fr.app N9 Nq65
    show Go p e below s _ _ _ T65 (mkF m 115 #[.val (.int x1), .val (.int x2), .val (.int l1), .val (.int l2), .val (.int l3), .val (.int l4), .val (.int (3 : Int32)), .val (.long p0), .second, .val (.long p1), .second, .val (.long p2), .second, .val (.long p3), .second, .val (.ref b1), .val (.ref b6), .unset] [])
    refine waload C X65 f0_115 rfl rfl ?_
    refine wiloadN C X65 f0_117 rfl ?_
    have q72 := (Nat.le_trans (Nat.le_trans (Nat.le_trans q7 E6.1) K9.1) K65.1)
    refine wstatic C X65 (y := (⟨"com/example/arbor_center/arborcenter/objective/UpperEnvelopeAddPinLaw", "w", "(I)J"⟩ : MethodName)) (tw_22 hw) (tw_23 hw) (tw_24 hw) (tw_25 hw) (by decide) (rm4 l Z a0 hw [] l1 T65.heap n0 q72) rfl f0_118 (argsL := [(.int l1)]) (rest := [(.ref b6)]) rfl rfl (lenOf pd_0 rfl) rfl (W := 1) (Nat.le_of_eq rfl) (by decide) (by decide) (by decide) (by decide) ?_
    intro v71 T71 L71 X71 q71
    obtain ⟨rfl, Nq71, eq71⟩ := q71
    have N71 := Fr.app N65 Nq71
    show Go p e below s _ _ _ T71 (mkF m 121 #[.val (.int x1), .val (.int x2), .val (.int l1), .val (.int l2), .val (.int l3), .val (.int l4), .val (.int (3 : Int32)), .val (.long p0), .second, .val (.long p1), .second, .val (.long p2), .second, .val (.long p3), .second, .val (.ref b1), .val (.ref b6), .unset] [(.long ((1 : Int32) + (l1 &&& (65535 : Int32))).toInt64), (.ref b6)])
    refine wl2d C X71 f0_121 ?_
    refine wiloadN C X71 f0_122 rfl ?_
    refine wstatic C X71 (y := (⟨"com/example/arbor_center/arborcenter/objective/UpperEnvelopeAddPinLaw", "d", "(I)J"⟩ : MethodName)) (tw_27 hw) (tw_28 hw) (tw_24 hw) (tw_29 hw) (by decide) (rm5 l Z a0 hw [] l1 T65.heap n0 q72) eq71 f0_123 (argsL := [(.int l1)]) (rest := [(.double (FP.l2d ((1 : Int32) + (l1 &&& (65535 : Int32))).toInt64)), (.ref b6)]) rfl rfl (lenOf pd_0 rfl) rfl (W := 3) (Nat.le_of_eq rfl) (by decide) (by decide) (by decide) (by decide) ?_
    intro v73 T73 L73 X73 q73
    obtain ⟨rfl, Nq73, eq73⟩ := q73
    have N73 := Fr.app N71 Nq73
    show Go p e below s _ _ _ T73 (mkF m 126 #[.val (.int x1), .val (.int x2), .val (.int l1), .val (.int l2), .val (.int l3), .val (.int l4), .val (.int (3 : Int32)), .val (.long p0), .second, .val (.long p1), .second, .val (.long p2), .second, .val (.long p3), .second, .val (.ref b1), .val (.ref b6), .unset] [(.long ((l1.toUInt32 >>> ((16 : Int32) &&& 31).toUInt32).toInt32 &&& (32767 : Int32)).toInt64), (.double (FP.l2d ((1 : Int32) + (l1 &&& (65535 : Int32))).toInt64)), (.ref b6)])
    refine wl2d C X73 f0_126 ?_
    refine wvirtual C X73 (y := (⟨"com/example/arbor_center/arborcenter/objective/UpperEnvelope", "add", "(DD)V"⟩ : MethodName)) (z := (⟨"com/example/arbor_center/arborcenter/objective/UpperEnvelope", "add", "(DD)V"⟩ : MethodName)) (tw_30 hw) (tw_31 hw) (notFace_of_selects (args := #[]) (mvT C.2.1 (tw_33 hw))) (tw_33 hw) (tw_32 hw) (tw_34 hw) (tw_3 hw) (by decide) (rm6 l Z a0 hw [] b6 (FP.l2d ((1 : Int32) + (l1 &&& (65535 : Int32))).toInt64) (FP.l2d ((l1.toUInt32 >>> ((16 : Int32) &&& 31).toUInt32).toInt32 &&& (32767 : Int32)).toInt64) ph_9 pl_9 k1_9 k2_9 3 [(.double (FP.ddiv (FP.l2d p0) (4611686018427387904 : UInt64))), (.double (FP.ddiv (FP.l2d p1) (4611686018427387904 : UInt64))), (.double (FP.ddiv (FP.l2d p2) (4611686018427387904 : UInt64))), (.double (0 : UInt64))] _ (own_P4 p0.toInt p1.toInt p2.toInt p3.toInt) (own_upd (own_upd (own_upd (own_upd (own_upd (fun _ => 0) 0 0) 1 0) 2 0) 3 0) 4 0) (own_upd (own_upd (own_upd (own_upd (own_upd (fun _ => 0) 0 0) 1 0) 2 0) 3 0) 4 0) (((1 : Int32) + (l1 &&& (65535 : Int32))).toInt64.toInt) (((l1.toUInt32 >>> ((16 : Int32) &&& 31).toUInt32).toInt32 &&& (32767 : Int32)).toInt64.toInt) T65.heap n0 q72 G65_1 G65_2 G65_3 G65_4 G65_5 (Nat.le_trans Z0 szG9_2) ne68 G9_3 (own_Lz 4 (own_Lz 3 (own_Lz 2 (own_Lz 1 (own_Lz 0 own_Ls0 (by decide) rfl rfl) (by decide) rfl rfl) (by decide) rfl rfl) (by decide) rfl rfl) (by decide) rfl rfl) (own_Ps4 (by decide) (fun _ => own_l2p hp0 (by decide)) (fun _ => own_l2p hp1.2 (by decide)) (fun _ => own_l2p hp2.2 (by decide)) (fun q => absurd q (by decide))) (hm0 _ (by decide)) (by decide) (by decide) (own_wd (own_w l1) (own_d l1))) eq73 (a := b6) G65_0 f0_127 (argsL := [(.double (FP.l2d ((1 : Int32) + (l1 &&& (65535 : Int32))).toInt64)), (.double (FP.l2d ((l1.toUInt32 >>> ((16 : Int32) &&& 31).toUInt32).toInt32 &&& (32767 : Int32)).toInt64))]) (rest := []) rfl rfl (lenOf pd_7 rfl) rfl (W := 0) (Nat.le_of_eq rfl) (by decide) (by decide) (by decide) (by decide) ?_
    intro v74 T74 L74 X74 q74
    obtain ⟨ls'_74, W'_74, D'_74, rfl, Nq74, K74, G74_0, G74_1, G74_2⟩ := q74
    have q75 := (Nat.le_trans (Nat.le_trans (Nat.le_trans q8 E6.1) K9.1) K65.1)
    have N74 := Fr.app N73 Nq74
    show Go p e below s _ _ _ T74 (mkF m 130 #[.val (.int x1), .val (.int x2), .val (.int l1), .val (.int l2), .val (.int l3), .val (.int l4), .val (.int (3 : Int32)), .val (.long p0), .second, .val (.long p1), .second, .val (.long p2), .second, .val (.long p3), .second, .val (.ref b1), .val (.ref b6), .unset] [])
    refine waload C X74 f0_130 rfl rfl ?_
    refine wiloadN C X74 f0_132 rfl ?_
    refine wstatic C X74 (y := (⟨"com/example/arbor_center/arborcenter/objective/UpperEnvelopeAddPinLaw", "w", "(I)J"⟩ : MethodName)) (tw_22 hw) (tw_23 hw) (tw_24 hw) (tw_25 hw) (by decide) (rm4 l Z a0 hw [] l2 T74.heap n0 (Nat.le_trans q72 K74.1)) rfl f0_133 (argsL := [(.int l2)]) (rest := [(.ref b6)]) rfl rfl (lenOf pd_0 rfl) rfl (W := 1) (Nat.le_of_eq rfl) (by decide) (by decide) (by decide) (by decide) ?_
    intro v76 T76 L76 X76 q76
    obtain ⟨rfl, Nq76, eq76⟩ := q76
    have N76 := Fr.app N74 Nq76
    show Go p e below s _ _ _ T76 (mkF m 136 #[.val (.int x1), .val (.int x2), .val (.int l1), .val (.int l2), .val (.int l3), .val (.int l4), .val (.int (3 : Int32)), .val (.long p0), .second, .val (.long p1), .second, .val (.long p2), .second, .val (.long p3), .second, .val (.ref b1), .val (.ref b6), .unset] [(.long ((1 : Int32) + (l2 &&& (65535 : Int32))).toInt64), (.ref b6)])
    refine wl2d C X76 f0_136 ?_
    refine wiloadN C X76 f0_137 rfl ?_
    refine wstatic C X76 (y := (⟨"com/example/arbor_center/arborcenter/objective/UpperEnvelopeAddPinLaw", "d", "(I)J"⟩ : MethodName)) (tw_27 hw) (tw_28 hw) (tw_24 hw) (tw_29 hw) (by decide) (rm5 l Z a0 hw [] l2 T74.heap n0 (Nat.le_trans q72 K74.1)) eq76 f0_138 (argsL := [(.int l2)]) (rest := [(.double (FP.l2d ((1 : Int32) + (l2 &&& (65535 : Int32))).toInt64)), (.ref b6)]) rfl rfl (lenOf pd_0 rfl) rfl (W := 3) (Nat.le_of_eq rfl) (by decide) (by decide) (by decide) (by decide) ?_
    intro v77 T77 L77 X77 q77
    obtain ⟨rfl, Nq77, eq77⟩ := q77
    have N77 := Fr.app N76 Nq77
    show Go p e below s _ _ _ T77 (mkF m 141 #[.val (.int x1), .val (.int x2), .val (.int l1), .val (.int l2), .val (.int l3), .val (.int l4), .val (.int (3 : Int32)), .val (.long p0), .second, .val (.long p1), .second, .val (.long p2), .second, .val (.long p3), .second, .val (.ref b1), .val (.ref b6), .unset] [(.long ((l2.toUInt32 >>> ((16 : Int32) &&& 31).toUInt32).toInt32 &&& (32767 : Int32)).toInt64), (.double (FP.l2d ((1 : Int32) + (l2 &&& (65535 : Int32))).toInt64)), (.ref b6)])
    refine wl2d C X77 f0_141 ?_
    refine wvirtual C X77 (y := (⟨"com/example/arbor_center/arborcenter/objective/UpperEnvelope", "add", "(DD)V"⟩ : MethodName)) (z := (⟨"com/example/arbor_center/arborcenter/objective/UpperEnvelope", "add", "(DD)V"⟩ : MethodName)) (tw_30 hw) (tw_31 hw) (notFace_of_selects (args := #[]) (mvT C.2.1 (tw_33 hw))) (tw_33 hw) (tw_32 hw) (tw_34 hw) (tw_3 hw) (by decide) (rm6 l Z a0 hw [] b6 (FP.l2d ((1 : Int32) + (l2 &&& (65535 : Int32))).toInt64) (FP.l2d ((l2.toUInt32 >>> ((16 : Int32) &&& 31).toUInt32).toInt32 &&& (32767 : Int32)).toInt64) ph_9 pl_9 k1_9 k2_9 3 [(.double (FP.ddiv (FP.l2d p0) (4611686018427387904 : UInt64))), (.double (FP.ddiv (FP.l2d p1) (4611686018427387904 : UInt64))), (.double (FP.ddiv (FP.l2d p2) (4611686018427387904 : UInt64))), (.double (0 : UInt64))] (ls'_74) (own_P4 p0.toInt p1.toInt p2.toInt p3.toInt) (W'_74) (D'_74) (((1 : Int32) + (l2 &&& (65535 : Int32))).toInt64.toInt) (((l2.toUInt32 >>> ((16 : Int32) &&& 31).toUInt32).toInt32 &&& (32767 : Int32)).toInt64.toInt) T74.heap n0 (Nat.le_trans q72 K74.1) (G65_1.keep K74 (ninS ne68 nin0)) (G65_2.keep K74 (ninS ne68 nin0)) (G65_3.keep K74 (ninS ne68 nin0)) (G65_4.keep K74 (ninS G9_3 nin0)) G74_0 (Nat.le_trans Z0 szG9_2) ne68 G9_3 G74_1 (own_Ps4 (by decide) (fun _ => own_l2p hp0 (by decide)) (fun _ => own_l2p hp1.2 (by decide)) (fun _ => own_l2p hp2.2 (by decide)) (fun q => absurd q (by decide))) (hm0 _ (by decide)) (by decide) (by decide) (own_wd (own_w l2) (own_d l2))) eq77 (a := b6) (G65_0.keep K74) f0_142 (argsL := [(.double (FP.l2d ((1 : Int32) + (l2 &&& (65535 : Int32))).toInt64)), (.double (FP.l2d ((l2.toUInt32 >>> ((16 : Int32) &&& 31).toUInt32).toInt32 &&& (32767 : Int32)).toInt64))]) (rest := []) rfl rfl (lenOf pd_7 rfl) rfl (W := 0) (Nat.le_of_eq rfl) (by decide) (by decide) (by decide) (by decide) ?_
    intro v78 T78 L78 X78 q78
    obtain ⟨ls'_78, W'_78, D'_78, rfl, Nq78, K78, G78_0, G78_1, G78_2⟩ := q78
    have N78 := Fr.app N77 Nq78
    show Go p e below s _ _ _ T78 (mkF m 145 #[.val (.int x1), .val (.int x2), .val (.int l1), .val (.int l2), .val (.int l3), .val (.int l4), .val (.int (3 : Int32)), .val (.long p0), .second, .val (.long p1), .second, .val (.long p2), .second, .val (.long p3), .second, .val (.ref b1), .val (.ref b6), .unset] [])
    refine waload C X78 f0_145 rfl rfl ?_
    refine wiload C X78 f0_147 rfl ?_
    refine wstatic C X78 (y := (⟨"com/example/arbor_center/arborcenter/objective/UpperEnvelopeAddPinLaw", "w", "(I)J"⟩ : MethodName)) (tw_22 hw) (tw_23 hw) (tw_24 hw) (tw_25 hw) (by decide) (rm4 l Z a0 hw [] l3 T78.heap n0 (Nat.le_trans (Nat.le_trans q72 K74.1) K78.1)) rfl f0_149 (argsL := [(.int l3)]) (rest := [(.ref b6)]) rfl rfl (lenOf pd_0 rfl) rfl (W := 1) (Nat.le_of_eq rfl) (by decide) (by decide) (by decide) (by decide) ?_
    intro v79 T79 L79 X79 q79
    obtain ⟨rfl, Nq79, eq79⟩ := q79
    have N79 := Fr.app N78 Nq79
    show Go p e below s _ _ _ T79 (mkF m 152 #[.val (.int x1), .val (.int x2), .val (.int l1), .val (.int l2), .val (.int l3), .val (.int l4), .val (.int (3 : Int32)), .val (.long p0), .second, .val (.long p1), .second, .val (.long p2), .second, .val (.long p3), .second, .val (.ref b1), .val (.ref b6), .unset] [(.long ((1 : Int32) + (l3 &&& (65535 : Int32))).toInt64), (.ref b6)])
    refine wl2d C X79 f0_152 ?_
    refine wiload C X79 f0_153 rfl ?_
    refine wstatic C X79 (y := (⟨"com/example/arbor_center/arborcenter/objective/UpperEnvelopeAddPinLaw", "d", "(I)J"⟩ : MethodName)) (tw_27 hw) (tw_28 hw) (tw_24 hw) (tw_29 hw) (by decide) (rm5 l Z a0 hw [] l3 T78.heap n0 (Nat.le_trans (Nat.le_trans q72 K74.1) K78.1)) eq79 f0_155 (argsL := [(.int l3)]) (rest := [(.double (FP.l2d ((1 : Int32) + (l3 &&& (65535 : Int32))).toInt64)), (.ref b6)]) rfl rfl (lenOf pd_0 rfl) rfl (W := 3) (Nat.le_of_eq rfl) (by decide) (by decide) (by decide) (by decide) ?_
    intro v80 T80 L80 X80 q80
    obtain ⟨rfl, Nq80, eq80⟩ := q80
    have N80 := Fr.app N79 Nq80
    show Go p e below s _ _ _ T80 (mkF m 158 #[.val (.int x1), .val (.int x2), .val (.int l1), .val (.int l2), .val (.int l3), .val (.int l4), .val (.int (3 : Int32)), .val (.long p0), .second, .val (.long p1), .second, .val (.long p2), .second, .val (.long p3), .second, .val (.ref b1), .val (.ref b6), .unset] [(.long ((l3.toUInt32 >>> ((16 : Int32) &&& 31).toUInt32).toInt32 &&& (32767 : Int32)).toInt64), (.double (FP.l2d ((1 : Int32) + (l3 &&& (65535 : Int32))).toInt64)), (.ref b6)])
    refine wl2d C X80 f0_158 ?_
    have q82 := ((G65_1.keep K74 (ninS ne68 nin0)).keep K78 (ninS ne68 nin0))
    have q83 := ((G65_2.keep K74 (ninS ne68 nin0)).keep K78 (ninS ne68 nin0))
    have q84 := ((G65_3.keep K74 (ninS ne68 nin0)).keep K78 (ninS ne68 nin0))
    have q85 := ((G65_4.keep K74 (ninS G9_3 nin0)).keep K78 (ninS G9_3 nin0))
    refine wvirtual C X80 (y := (⟨"com/example/arbor_center/arborcenter/objective/UpperEnvelope", "add", "(DD)V"⟩ : MethodName)) (z := (⟨"com/example/arbor_center/arborcenter/objective/UpperEnvelope", "add", "(DD)V"⟩ : MethodName)) (tw_30 hw) (tw_31 hw) (notFace_of_selects (args := #[]) (mvT C.2.1 (tw_33 hw))) (tw_33 hw) (tw_32 hw) (tw_34 hw) (tw_3 hw) (by decide) (rm6 l Z a0 hw [] b6 (FP.l2d ((1 : Int32) + (l3 &&& (65535 : Int32))).toInt64) (FP.l2d ((l3.toUInt32 >>> ((16 : Int32) &&& 31).toUInt32).toInt32 &&& (32767 : Int32)).toInt64) ph_9 pl_9 k1_9 k2_9 3 [(.double (FP.ddiv (FP.l2d p0) (4611686018427387904 : UInt64))), (.double (FP.ddiv (FP.l2d p1) (4611686018427387904 : UInt64))), (.double (FP.ddiv (FP.l2d p2) (4611686018427387904 : UInt64))), (.double (0 : UInt64))] (ls'_78) (own_P4 p0.toInt p1.toInt p2.toInt p3.toInt) (W'_78) (D'_78) (((1 : Int32) + (l3 &&& (65535 : Int32))).toInt64.toInt) (((l3.toUInt32 >>> ((16 : Int32) &&& 31).toUInt32).toInt32 &&& (32767 : Int32)).toInt64.toInt) T78.heap n0 (Nat.le_trans (Nat.le_trans q72 K74.1) K78.1) q82 q83 q84 q85 G78_0 (Nat.le_trans Z0 szG9_2) ne68 G9_3 G78_1 (own_Ps4 (by decide) (fun _ => own_l2p hp0 (by decide)) (fun _ => own_l2p hp1.2 (by decide)) (fun _ => own_l2p hp2.2 (by decide)) (fun q => absurd q (by decide))) (hm0 _ (by decide)) (by decide) (by decide) (own_wd (own_w l3) (own_d l3))) eq80 (a := b6) ((G65_0.keep K74).keep K78) f0_159 (argsL := [(.double (FP.l2d ((1 : Int32) + (l3 &&& (65535 : Int32))).toInt64)), (.double (FP.l2d ((l3.toUInt32 >>> ((16 : Int32) &&& 31).toUInt32).toInt32 &&& (32767 : Int32)).toInt64))]) (rest := []) rfl rfl (lenOf pd_7 rfl) rfl (W := 0) (Nat.le_of_eq rfl) (by decide) (by decide) (by decide) (by decide) ?_
    intro v81 T81 L81 X81 q81
    obtain ⟨ls'_81, W'_81, D'_81, rfl, Nq81, K81, G81_0, G81_1, G81_2⟩ := q81
    have N81 := Fr.app N80 Nq81
    show Go p e below s _ _ _ T81 (mkF m 162 #[.val (.int x1), .val (.int x2), .val (.int l1), .val (.int l2), .val (.int l3), .val (.int l4), .val (.int (3 : Int32)), .val (.long p0), .second, .val (.long p1), .second, .val (.long p2), .second, .val (.long p3), .second, .val (.ref b1), .val (.ref b6), .unset] [])
    refine waload C X81 f0_162 rfl rfl ?_
    refine wiload C X81 f0_164 rfl ?_
    have q87 := (Nat.le_trans (Nat.le_trans (Nat.le_trans q72 K74.1) K78.1) K81.1)
    refine wstatic C X81 (y := (⟨"com/example/arbor_center/arborcenter/objective/UpperEnvelopeAddPinLaw", "w", "(I)J"⟩ : MethodName)) (tw_22 hw) (tw_23 hw) (tw_24 hw) (tw_25 hw) (by decide) (rm4 l Z a0 hw [] l4 T81.heap n0 q87) rfl f0_166 (argsL := [(.int l4)]) (rest := [(.ref b6)]) rfl rfl (lenOf pd_0 rfl) rfl (W := 1) (Nat.le_of_eq rfl) (by decide) (by decide) (by decide) (by decide) ?_
    intro v86 T86 L86 X86 q86
    obtain ⟨rfl, Nq86, eq86⟩ := q86
    have N86 := Fr.app N81 Nq86
    show Go p e below s _ _ _ T86 (mkF m 169 #[.val (.int x1), .val (.int x2), .val (.int l1), .val (.int l2), .val (.int l3), .val (.int l4), .val (.int (3 : Int32)), .val (.long p0), .second, .val (.long p1), .second, .val (.long p2), .second, .val (.long p3), .second, .val (.ref b1), .val (.ref b6), .unset] [(.long ((1 : Int32) + (l4 &&& (65535 : Int32))).toInt64), (.ref b6)])
    refine wl2d C X86 f0_169 ?_
    refine wiload C X86 f0_170 rfl ?_
    refine wstatic C X86 (y := (⟨"com/example/arbor_center/arborcenter/objective/UpperEnvelopeAddPinLaw", "d", "(I)J"⟩ : MethodName)) (tw_27 hw) (tw_28 hw) (tw_24 hw) (tw_29 hw) (by decide) (rm5 l Z a0 hw [] l4 T81.heap n0 q87) eq86 f0_172 (argsL := [(.int l4)]) (rest := [(.double (FP.l2d ((1 : Int32) + (l4 &&& (65535 : Int32))).toInt64)), (.ref b6)]) rfl rfl (lenOf pd_0 rfl) rfl (W := 3) (Nat.le_of_eq rfl) (by decide) (by decide) (by decide) (by decide) ?_
    intro v88 T88 L88 X88 q88
    obtain ⟨rfl, Nq88, eq88⟩ := q88
    have N88 := Fr.app N86 Nq88
    show Go p e below s _ _ _ T88 (mkF m 175 #[.val (.int x1), .val (.int x2), .val (.int l1), .val (.int l2), .val (.int l3), .val (.int l4), .val (.int (3 : Int32)), .val (.long p0), .second, .val (.long p1), .second, .val (.long p2), .second, .val (.long p3), .second, .val (.ref b1), .val (.ref b6), .unset] [(.long ((l4.toUInt32 >>> ((16 : Int32) &&& 31).toUInt32).toInt32 &&& (32767 : Int32)).toInt64), (.double (FP.l2d ((1 : Int32) + (l4 &&& (65535 : Int32))).toInt64)), (.ref b6)])
    refine wl2d C X88 f0_175 ?_
    refine wvirtual C X88 (y := (⟨"com/example/arbor_center/arborcenter/objective/UpperEnvelope", "add", "(DD)V"⟩ : MethodName)) (z := (⟨"com/example/arbor_center/arborcenter/objective/UpperEnvelope", "add", "(DD)V"⟩ : MethodName)) (tw_30 hw) (tw_31 hw) (notFace_of_selects (args := #[]) (mvT C.2.1 (tw_33 hw))) (tw_33 hw) (tw_32 hw) (tw_34 hw) (tw_3 hw) (by decide) (rm6 l Z a0 hw [] b6 (FP.l2d ((1 : Int32) + (l4 &&& (65535 : Int32))).toInt64) (FP.l2d ((l4.toUInt32 >>> ((16 : Int32) &&& 31).toUInt32).toInt32 &&& (32767 : Int32)).toInt64) ph_9 pl_9 k1_9 k2_9 3 [(.double (FP.ddiv (FP.l2d p0) (4611686018427387904 : UInt64))), (.double (FP.ddiv (FP.l2d p1) (4611686018427387904 : UInt64))), (.double (FP.ddiv (FP.l2d p2) (4611686018427387904 : UInt64))), (.double (0 : UInt64))] (ls'_81) (own_P4 p0.toInt p1.toInt p2.toInt p3.toInt) (W'_81) (D'_81) (((1 : Int32) + (l4 &&& (65535 : Int32))).toInt64.toInt) (((l4.toUInt32 >>> ((16 : Int32) &&& 31).toUInt32).toInt32 &&& (32767 : Int32)).toInt64.toInt) T81.heap n0 q87 (q82.keep K81 (ninS ne68 nin0)) (q83.keep K81 (ninS ne68 nin0)) (q84.keep K81 (ninS ne68 nin0)) (q85.keep K81 (ninS G9_3 nin0)) G81_0 (Nat.le_trans Z0 szG9_2) ne68 G9_3 G81_1 (own_Ps4 (by decide) (fun _ => own_l2p hp0 (by decide)) (fun _ => own_l2p hp1.2 (by decide)) (fun _ => own_l2p hp2.2 (by decide)) (fun q => absurd q (by decide))) (hm0 _ (by decide)) (by decide) (by decide) (own_wd (own_w l4) (own_d l4))) eq88 (a := b6) (((G65_0.keep K74).keep K78).keep K81) f0_176 (argsL := [(.double (FP.l2d ((1 : Int32) + (l4 &&& (65535 : Int32))).toInt64)), (.double (FP.l2d ((l4.toUInt32 >>> ((16 : Int32) &&& 31).toUInt32).toInt32 &&& (32767 : Int32)).toInt64))]) (rest := []) rfl rfl (lenOf pd_7 rfl) rfl (W := 0) (Nat.le_of_eq rfl) (by decide) (by decide) (by decide) (by decide) ?_
    intro v89 T89 L89 X89 q89
    obtain ⟨ls'_89, W'_89, D'_89, rfl, Nq89, K89, G89_0, G89_1, G89_2⟩ := q89
    have q90 := (Nat.le_trans (Nat.le_trans (Nat.le_trans q75 K74.1) K78.1) K81.1)
    have N89 := Fr.app N88 Nq89
    show Go p e below s _ _ _ T89 (mkF m 179 #[.val (.int x1), .val (.int x2), .val (.int l1), .val (.int l2), .val (.int l3), .val (.int l4), .val (.int (3 : Int32)), .val (.long p0), .second, .val (.long p1), .second, .val (.long p2), .second, .val (.long p3), .second, .val (.ref b1), .val (.ref b6), .unset] [])
    refine waload C X89 f0_179 rfl rfl ?_
    refine wiconst C X89 f0_181 (0 : Int32) rfl ?_
    refine wlload C X89 f0_182 rfl ?_
    refine wiloadN C X89 f0_184 rfl ?_
    refine wiloadN C X89 f0_185 rfl ?_
    refine wiload C X89 f0_186 rfl ?_
    refine wiload C X89 f0_188 rfl ?_
    refine wstatic C X89 (y := (⟨"com/example/arbor_center/arborcenter/objective/UpperEnvelopeAddPinLaw", "check", "(Lcom/example/arbor_center/arborcenter/objective/UpperEnvelope;IJIIII)Z"⟩ : MethodName)) (tw_35 hw) (tw_36 hw) (tw_24 hw) (tw_37 hw) (by decide) (rm7_3_0 l Z a0 hw [] b6 (0 : Int32) p0 l1 l2 l3 l4 ph_9 pl_9 k1_9 k2_9 [(.double (FP.ddiv (FP.l2d p0) (4611686018427387904 : UInt64))), (.double (FP.ddiv (FP.l2d p1) (4611686018427387904 : UInt64))), (.double (FP.ddiv (FP.l2d p2) (4611686018427387904 : UInt64))), (.double (0 : UInt64))] (ls'_89) (own_P4 p0.toInt p1.toInt p2.toInt p3.toInt) (W'_89) (D'_89) T89.heap n0 (Nat.le_trans q87 K89.1) ((((G65_0.keep K74).keep K78).keep K81).keep K89) ((q82.keep K81 (ninS ne68 nin0)).keep K89 (ninS ne68 nin0)) ((q83.keep K81 (ninS ne68 nin0)).keep K89 (ninS ne68 nin0)) ((q84.keep K81 (ninS ne68 nin0)).keep K89 (ninS ne68 nin0)) ((q85.keep K81 (ninS G9_3 nin0)).keep K89 (ninS G9_3 nin0)) G89_0 rfl G89_1 (own_Ps4 (by decide) (fun _ => own_l2p hp0 (by decide)) (fun _ => own_l2p hp1.2 (by decide)) (fun _ => own_l2p hp2.2 (by decide)) (fun q => absurd q (by decide))) (own_fin (G74_2 0 (by decide)) (G78_2 0 (by decide)) (G81_2 0 (by decide)) (G89_2 0 (by decide)) (by simp [own_pm, own_upd]) mm0.2.1 hB0.1) hB0.2) rfl f0_190 (argsL := [(.ref b6), (.int (0 : Int32)), (.long p0), (.int l1), (.int l2), (.int l3), (.int l4)]) (rest := []) rfl rfl (lenOf pd_8 rfl) rfl (W := 0) (Nat.le_of_eq rfl) (by decide) (by decide) (by decide) (by decide) ?_
    intro v91 T91 L91 X91 q91
    obtain ⟨rfl, Nq91, eq91⟩ := q91
    have N91 := Fr.app N89 Nq91
    show Go p e below s _ _ _ T91 (mkF m 193 #[.val (.int x1), .val (.int x2), .val (.int l1), .val (.int l2), .val (.int l3), .val (.int l4), .val (.int (3 : Int32)), .val (.long p0), .second, .val (.long p1), .second, .val (.long p2), .second, .val (.long p3), .second, .val (.ref b1), .val (.ref b6), .unset] [(.int (1 : Int32))])
    refine wistore C X91 f0_193 #[.val (.int x1), .val (.int x2), .val (.int l1), .val (.int l2), .val (.int l3), .val (.int l4), .val (.int (3 : Int32)), .val (.long p0), .second, .val (.long p1), .second, .val (.long p2), .second, .val (.long p3), .second, .val (.ref b1), .val (.ref b6), .val (.int (1 : Int32))] rfl ?_
    refine wiload C X91 f0_195 rfl ?_
    refine wiconst C X91 f0_197 (1 : Int32) rfl ?_
    refine wicmp_le C X91 f0_198 ?_ (fun q => absurd (by decide : ((1 : Int32) < (3 : Int32))) q)
    intro _
    refine wiload C X91 f0_201 rfl ?_
    refine wif_eq C X91 f0_203 (fun q => absurd q (by decide : ¬ ((1 : Int32) = (0 : Int32)))) ?_
    intro _
    refine waload C X91 f0_206 rfl rfl ?_
    refine wiconst C X91 f0_208 (1 : Int32) rfl ?_
    refine wlload C X91 f0_209 rfl ?_
    refine wiloadN C X91 f0_211 rfl ?_
    refine wiloadN C X91 f0_212 rfl ?_
    refine wiload C X91 f0_213 rfl ?_
    refine wiload C X91 f0_215 rfl ?_
    refine wstatic C X91 (y := (⟨"com/example/arbor_center/arborcenter/objective/UpperEnvelopeAddPinLaw", "check", "(Lcom/example/arbor_center/arborcenter/objective/UpperEnvelope;IJIIII)Z"⟩ : MethodName)) (tw_35 hw) (tw_36 hw) (tw_24 hw) (tw_37 hw) (by decide) (rm7_3_1 l Z a0 hw [] b6 (1 : Int32) p1 l1 l2 l3 l4 ph_9 pl_9 k1_9 k2_9 [(.double (FP.ddiv (FP.l2d p0) (4611686018427387904 : UInt64))), (.double (FP.ddiv (FP.l2d p1) (4611686018427387904 : UInt64))), (.double (FP.ddiv (FP.l2d p2) (4611686018427387904 : UInt64))), (.double (0 : UInt64))] (ls'_89) (own_P4 p0.toInt p1.toInt p2.toInt p3.toInt) (W'_89) (D'_89) T89.heap n0 (Nat.le_trans q87 K89.1) ((((G65_0.keep K74).keep K78).keep K81).keep K89) ((q82.keep K81 (ninS ne68 nin0)).keep K89 (ninS ne68 nin0)) ((q83.keep K81 (ninS ne68 nin0)).keep K89 (ninS ne68 nin0)) ((q84.keep K81 (ninS ne68 nin0)).keep K89 (ninS ne68 nin0)) ((q85.keep K81 (ninS G9_3 nin0)).keep K89 (ninS G9_3 nin0)) G89_0 rfl G89_1 (own_Ps4 (by decide) (fun _ => own_l2p hp0 (by decide)) (fun _ => own_l2p hp1.2 (by decide)) (fun _ => own_l2p hp2.2 (by decide)) (fun q => absurd q (by decide))) (own_fin (G74_2 1 (by decide)) (G78_2 1 (by decide)) (G81_2 1 (by decide)) (G89_2 1 (by decide)) (by simp [own_pm, own_upd]) mm1.2.1 hB1.1) hB1.2) eq91 f0_217 (argsL := [(.ref b6), (.int (1 : Int32)), (.long p1), (.int l1), (.int l2), (.int l3), (.int l4)]) (rest := []) rfl rfl (lenOf pd_8 rfl) rfl (W := 0) (Nat.le_of_eq rfl) (by decide) (by decide) (by decide) (by decide) ?_
    intro v92 T92 L92 X92 q92
    obtain ⟨rfl, Nq92, eq92⟩ := q92
    have N92 := Fr.app N91 Nq92
    show Go p e below s _ _ _ T92 (mkF m 220 #[.val (.int x1), .val (.int x2), .val (.int l1), .val (.int l2), .val (.int l3), .val (.int l4), .val (.int (3 : Int32)), .val (.long p0), .second, .val (.long p1), .second, .val (.long p2), .second, .val (.long p3), .second, .val (.ref b1), .val (.ref b6), .val (.int (1 : Int32))] [(.int (1 : Int32))])
    refine wif_eq C X92 f0_220 (fun q => absurd q (by decide : ¬ ((1 : Int32) = (0 : Int32)))) ?_
    intro _
    refine wiconst C X92 f0_223 (1 : Int32) rfl ?_
    refine wgoto C X92 f0_224 ?_
    refine wistore C X92 f0_228 #[.val (.int x1), .val (.int x2), .val (.int l1), .val (.int l2), .val (.int l3), .val (.int l4), .val (.int (3 : Int32)), .val (.long p0), .second, .val (.long p1), .second, .val (.long p2), .second, .val (.long p3), .second, .val (.ref b1), .val (.ref b6), .val (.int (1 : Int32))] rfl ?_
    refine wiload C X92 f0_230 rfl ?_
    refine wiconst C X92 f0_232 (2 : Int32) rfl ?_
    refine wicmp_le C X92 f0_233 ?_ (fun q => absurd (by decide : ((2 : Int32) < (3 : Int32))) q)
    intro _
    refine wiload C X92 f0_236 rfl ?_
    refine wif_eq C X92 f0_238 (fun q => absurd q (by decide : ¬ ((1 : Int32) = (0 : Int32)))) ?_
    intro _
    refine waload C X92 f0_241 rfl rfl ?_
    refine wiconst C X92 f0_243 (2 : Int32) rfl ?_
    refine wlload C X92 f0_244 rfl ?_
    refine wiloadN C X92 f0_246 rfl ?_
    refine wiloadN C X92 f0_247 rfl ?_
    refine wiload C X92 f0_248 rfl ?_
    refine wiload C X92 f0_250 rfl ?_
    refine wstatic C X92 (y := (⟨"com/example/arbor_center/arborcenter/objective/UpperEnvelopeAddPinLaw", "check", "(Lcom/example/arbor_center/arborcenter/objective/UpperEnvelope;IJIIII)Z"⟩ : MethodName)) (tw_35 hw) (tw_36 hw) (tw_24 hw) (tw_37 hw) (by decide) (rm7_3_2 l Z a0 hw [] b6 (2 : Int32) p2 l1 l2 l3 l4 ph_9 pl_9 k1_9 k2_9 [(.double (FP.ddiv (FP.l2d p0) (4611686018427387904 : UInt64))), (.double (FP.ddiv (FP.l2d p1) (4611686018427387904 : UInt64))), (.double (FP.ddiv (FP.l2d p2) (4611686018427387904 : UInt64))), (.double (0 : UInt64))] (ls'_89) (own_P4 p0.toInt p1.toInt p2.toInt p3.toInt) (W'_89) (D'_89) T89.heap n0 (Nat.le_trans q87 K89.1) ((((G65_0.keep K74).keep K78).keep K81).keep K89) ((q82.keep K81 (ninS ne68 nin0)).keep K89 (ninS ne68 nin0)) ((q83.keep K81 (ninS ne68 nin0)).keep K89 (ninS ne68 nin0)) ((q84.keep K81 (ninS ne68 nin0)).keep K89 (ninS ne68 nin0)) ((q85.keep K81 (ninS G9_3 nin0)).keep K89 (ninS G9_3 nin0)) G89_0 rfl G89_1 (own_Ps4 (by decide) (fun _ => own_l2p hp0 (by decide)) (fun _ => own_l2p hp1.2 (by decide)) (fun _ => own_l2p hp2.2 (by decide)) (fun q => absurd q (by decide))) (own_fin (G74_2 2 (by decide)) (G78_2 2 (by decide)) (G81_2 2 (by decide)) (G89_2 2 (by decide)) (by simp [own_pm, own_upd]) mm2.2.1 hB2.1) hB2.2) eq92 f0_252 (argsL := [(.ref b6), (.int (2 : Int32)), (.long p2), (.int l1), (.int l2), (.int l3), (.int l4)]) (rest := []) rfl rfl (lenOf pd_8 rfl) rfl (W := 0) (Nat.le_of_eq rfl) (by decide) (by decide) (by decide) (by decide) ?_
    intro v93 T93 L93 X93 q93
    obtain ⟨rfl, Nq93, eq93⟩ := q93
    have N93 := Fr.app N92 Nq93
    show Go p e below s _ _ _ T93 (mkF m 255 #[.val (.int x1), .val (.int x2), .val (.int l1), .val (.int l2), .val (.int l3), .val (.int l4), .val (.int (3 : Int32)), .val (.long p0), .second, .val (.long p1), .second, .val (.long p2), .second, .val (.long p3), .second, .val (.ref b1), .val (.ref b6), .val (.int (1 : Int32))] [(.int (1 : Int32))])
    refine wif_eq C X93 f0_255 (fun q => absurd q (by decide : ¬ ((1 : Int32) = (0 : Int32)))) ?_
    intro _
    refine wiconst C X93 f0_258 (1 : Int32) rfl ?_
    refine wgoto C X93 f0_259 ?_
    refine wistore C X93 f0_263 #[.val (.int x1), .val (.int x2), .val (.int l1), .val (.int l2), .val (.int l3), .val (.int l4), .val (.int (3 : Int32)), .val (.long p0), .second, .val (.long p1), .second, .val (.long p2), .second, .val (.long p3), .second, .val (.ref b1), .val (.ref b6), .val (.int (1 : Int32))] rfl ?_
    refine wiload C X93 f0_265 rfl ?_
    refine wiconst C X93 f0_267 (3 : Int32) rfl ?_
    refine wicmp_le C X93 f0_268 (fun q => absurd q (by decide : ¬ ((3 : Int32) < (3 : Int32)))) ?_
    intro _
    refine wiload C X93 f0_300 rfl ?_
    refine wiretN C X93 (t := .boolean) (by simp) f0_302 rfl (1 : Int32) (by decide) (by decide) (by decide) ?_
    rw [eq93]
    exact ⟨rfl, N93⟩
  · have ne95 : b1 ≠ b6 := (Nat.ne_of_lt (Nat.lt_of_lt_of_le (Nat.lt_of_lt_of_eq (Nat.lt_of_lt_of_eq (Nat.lt_of_lt_of_eq (Nat.lt_of_lt_of_eq Vp1.lt W2.size.symm) W3.size.symm) W4.size.symm) W5.size.symm) (Nat.le_of_eq g6.symm)))
    have ne96 : b6 ≠ ph_9 := (Nat.ne_of_lt (Nat.lt_of_lt_of_le A6.lt G9_1))
    have ne97 : b6 ≠ pl_9 := (Nat.ne_of_lt (Nat.lt_of_lt_of_le A6.lt G9_2))
    have ne98 : b1 ≠ ph_9 := (Nat.ne_of_lt (Nat.lt_of_lt_of_le (Nat.lt_of_lt_of_le (Nat.lt_of_lt_of_eq (Nat.lt_of_lt_of_eq (Nat.lt_of_lt_of_eq (Nat.lt_of_lt_of_eq Vp1.lt W2.size.symm) W3.size.symm) W4.size.symm) W5.size.symm) E6.1) G9_1))
    have ne99 : b1 ≠ pl_9 := (Nat.ne_of_lt (Nat.lt_of_lt_of_le (Nat.lt_of_lt_of_le (Nat.lt_of_lt_of_eq (Nat.lt_of_lt_of_eq (Nat.lt_of_lt_of_eq (Nat.lt_of_lt_of_eq Vp1.lt W2.size.symm) W3.size.symm) W4.size.symm) W5.size.symm) E6.1) G9_2))
    refine wvirtual C X9 (y := (⟨"com/example/arbor_center/arborcenter/objective/UpperEnvelope", "reset", "([DI)V"⟩ : MethodName)) (z := (⟨"com/example/arbor_center/arborcenter/objective/UpperEnvelope", "reset", "([DI)V"⟩ : MethodName)) (tw_14 hw) (tw_15 hw) (notFace_of_selects (args := #[]) (mvT C.2.1 (tw_17 hw))) (tw_17 hw) (tw_16 hw) (tw_18 hw) (tw_3 hw) (by decide) (rm3_4 l Z a0 hw [] b6 b1 (4 : Int32) ph_9 pl_9 k1_9 k2_9 k1 (0 : Int32) [(.double (0 : UInt64)), (.double (0 : UInt64)), (.double (0 : UInt64)), (.double (0 : UInt64)), (.double (0 : UInt64)), (.double (0 : UInt64)), (.double (0 : UInt64)), (.double (0 : UInt64)), (.double (0 : UInt64)), (.double (0 : UInt64)), (.double (0 : UInt64)), (.double (0 : UInt64)), (.double (0 : UInt64)), (.double (0 : UInt64))] (0 : UInt64) (0 : UInt64) (0 : UInt64) (0 : UInt64) (FP.l2d p0) (FP.l2d p1) (FP.l2d p2) (FP.l2d p3) T9.heap n0 (Nat.le_trans (Nat.le_trans q7 E6.1) K9.1) G9_0 G9_4 G9_5 G9_6 G9_7 G9_8 ((V5.ext E6).keep K9 (ninS ne95 nin0)) (Nat.le_trans Z0 sz6) (Nat.le_trans Z0 szG9_1) (Nat.le_trans Z0 szG9_2) ne96 ne97 G9_3 ne95 ne98 ne99 rfl rfl hd_0 hd_1 hd_2 hd_3) rfl (a := b6) G9_0 f0_112 (argsL := [(.ref b1), (.int (4 : Int32))]) (rest := []) rfl rfl (lenOf pd_6 rfl) rfl (W := 0) (Nat.le_of_eq rfl) (by decide) (by decide) (by decide) (by decide) ?_
    intro v94 T94 L94 X94 q94
    obtain ⟨rfl, Nq94, K94, G94_0, G94_1, G94_2, G94_3, G94_4, G94_5⟩ := q94
    have N94 := Fr.app N9 Nq94
    show Go p e below s _ _ _ T94 (mkF m 115 #[.val (.int x1), .val (.int x2), .val (.int l1), .val (.int l2), .val (.int l3), .val (.int l4), .val (.int (4 : Int32)), .val (.long p0), .second, .val (.long p1), .second, .val (.long p2), .second, .val (.long p3), .second, .val (.ref b1), .val (.ref b6), .unset] [])
    refine waload C X94 f0_115 rfl rfl ?_
    refine wiloadN C X94 f0_117 rfl ?_
    have q101 := (Nat.le_trans (Nat.le_trans (Nat.le_trans q7 E6.1) K9.1) K94.1)
    refine wstatic C X94 (y := (⟨"com/example/arbor_center/arborcenter/objective/UpperEnvelopeAddPinLaw", "w", "(I)J"⟩ : MethodName)) (tw_22 hw) (tw_23 hw) (tw_24 hw) (tw_25 hw) (by decide) (rm4 l Z a0 hw [] l1 T94.heap n0 q101) rfl f0_118 (argsL := [(.int l1)]) (rest := [(.ref b6)]) rfl rfl (lenOf pd_0 rfl) rfl (W := 1) (Nat.le_of_eq rfl) (by decide) (by decide) (by decide) (by decide) ?_
    intro v100 T100 L100 X100 q100
    obtain ⟨rfl, Nq100, eq100⟩ := q100
    have N100 := Fr.app N94 Nq100
    show Go p e below s _ _ _ T100 (mkF m 121 #[.val (.int x1), .val (.int x2), .val (.int l1), .val (.int l2), .val (.int l3), .val (.int l4), .val (.int (4 : Int32)), .val (.long p0), .second, .val (.long p1), .second, .val (.long p2), .second, .val (.long p3), .second, .val (.ref b1), .val (.ref b6), .unset] [(.long ((1 : Int32) + (l1 &&& (65535 : Int32))).toInt64), (.ref b6)])
    refine wl2d C X100 f0_121 ?_
    refine wiloadN C X100 f0_122 rfl ?_
    refine wstatic C X100 (y := (⟨"com/example/arbor_center/arborcenter/objective/UpperEnvelopeAddPinLaw", "d", "(I)J"⟩ : MethodName)) (tw_27 hw) (tw_28 hw) (tw_24 hw) (tw_29 hw) (by decide) (rm5 l Z a0 hw [] l1 T94.heap n0 q101) eq100 f0_123 (argsL := [(.int l1)]) (rest := [(.double (FP.l2d ((1 : Int32) + (l1 &&& (65535 : Int32))).toInt64)), (.ref b6)]) rfl rfl (lenOf pd_0 rfl) rfl (W := 3) (Nat.le_of_eq rfl) (by decide) (by decide) (by decide) (by decide) ?_
    intro v102 T102 L102 X102 q102
    obtain ⟨rfl, Nq102, eq102⟩ := q102
    have N102 := Fr.app N100 Nq102
    show Go p e below s _ _ _ T102 (mkF m 126 #[.val (.int x1), .val (.int x2), .val (.int l1), .val (.int l2), .val (.int l3), .val (.int l4), .val (.int (4 : Int32)), .val (.long p0), .second, .val (.long p1), .second, .val (.long p2), .second, .val (.long p3), .second, .val (.ref b1), .val (.ref b6), .unset] [(.long ((l1.toUInt32 >>> ((16 : Int32) &&& 31).toUInt32).toInt32 &&& (32767 : Int32)).toInt64), (.double (FP.l2d ((1 : Int32) + (l1 &&& (65535 : Int32))).toInt64)), (.ref b6)])
    refine wl2d C X102 f0_126 ?_
    refine wvirtual C X102 (y := (⟨"com/example/arbor_center/arborcenter/objective/UpperEnvelope", "add", "(DD)V"⟩ : MethodName)) (z := (⟨"com/example/arbor_center/arborcenter/objective/UpperEnvelope", "add", "(DD)V"⟩ : MethodName)) (tw_30 hw) (tw_31 hw) (notFace_of_selects (args := #[]) (mvT C.2.1 (tw_33 hw))) (tw_33 hw) (tw_32 hw) (tw_34 hw) (tw_3 hw) (by decide) (rm6 l Z a0 hw [] b6 (FP.l2d ((1 : Int32) + (l1 &&& (65535 : Int32))).toInt64) (FP.l2d ((l1.toUInt32 >>> ((16 : Int32) &&& 31).toUInt32).toInt32 &&& (32767 : Int32)).toInt64) ph_9 pl_9 k1_9 k2_9 4 [(.double (FP.ddiv (FP.l2d p0) (4611686018427387904 : UInt64))), (.double (FP.ddiv (FP.l2d p1) (4611686018427387904 : UInt64))), (.double (FP.ddiv (FP.l2d p2) (4611686018427387904 : UInt64))), (.double (FP.ddiv (FP.l2d p3) (4611686018427387904 : UInt64)))] _ (own_P4 p0.toInt p1.toInt p2.toInt p3.toInt) (own_upd (own_upd (own_upd (own_upd (own_upd (own_upd (own_upd (fun _ => 0) 0 0) 1 0) 2 0) 3 0) 4 0) 5 0) 6 0) (own_upd (own_upd (own_upd (own_upd (own_upd (own_upd (own_upd (fun _ => 0) 0 0) 1 0) 2 0) 3 0) 4 0) 5 0) 6 0) (((1 : Int32) + (l1 &&& (65535 : Int32))).toInt64.toInt) (((l1.toUInt32 >>> ((16 : Int32) &&& 31).toUInt32).toInt32 &&& (32767 : Int32)).toInt64.toInt) T94.heap n0 q101 G94_1 G94_2 G94_3 G94_4 G94_5 (Nat.le_trans Z0 szG9_2) ne97 G9_3 (own_Lz 6 (own_Lz 5 (own_Lz 4 (own_Lz 3 (own_Lz 2 (own_Lz 1 (own_Lz 0 own_Ls0 (by decide) rfl rfl) (by decide) rfl rfl) (by decide) rfl rfl) (by decide) rfl rfl) (by decide) rfl rfl) (by decide) rfl rfl) (by decide) rfl rfl) (own_Ps4 (by decide) (fun _ => own_l2p hp0 (by decide)) (fun _ => own_l2p hp1.2 (by decide)) (fun _ => own_l2p hp2.2 (by decide)) (fun _ => own_l2p hp3.2 (by decide))) (hm0 _ (by decide)) (by decide) (by decide) (own_wd (own_w l1) (own_d l1))) eq102 (a := b6) G94_0 f0_127 (argsL := [(.double (FP.l2d ((1 : Int32) + (l1 &&& (65535 : Int32))).toInt64)), (.double (FP.l2d ((l1.toUInt32 >>> ((16 : Int32) &&& 31).toUInt32).toInt32 &&& (32767 : Int32)).toInt64))]) (rest := []) rfl rfl (lenOf pd_7 rfl) rfl (W := 0) (Nat.le_of_eq rfl) (by decide) (by decide) (by decide) (by decide) ?_
    intro v103 T103 L103 X103 q103
    obtain ⟨ls'_103, W'_103, D'_103, rfl, Nq103, K103, G103_0, G103_1, G103_2⟩ := q103
    have q104 := (Nat.le_trans (Nat.le_trans (Nat.le_trans q8 E6.1) K9.1) K94.1)
    have N103 := Fr.app N102 Nq103
    show Go p e below s _ _ _ T103 (mkF m 130 #[.val (.int x1), .val (.int x2), .val (.int l1), .val (.int l2), .val (.int l3), .val (.int l4), .val (.int (4 : Int32)), .val (.long p0), .second, .val (.long p1), .second, .val (.long p2), .second, .val (.long p3), .second, .val (.ref b1), .val (.ref b6), .unset] [])
    refine waload C X103 f0_130 rfl rfl ?_
    refine wiloadN C X103 f0_132 rfl ?_
    refine wstatic C X103 (y := (⟨"com/example/arbor_center/arborcenter/objective/UpperEnvelopeAddPinLaw", "w", "(I)J"⟩ : MethodName)) (tw_22 hw) (tw_23 hw) (tw_24 hw) (tw_25 hw) (by decide) (rm4 l Z a0 hw [] l2 T103.heap n0 (Nat.le_trans q101 K103.1)) rfl f0_133 (argsL := [(.int l2)]) (rest := [(.ref b6)]) rfl rfl (lenOf pd_0 rfl) rfl (W := 1) (Nat.le_of_eq rfl) (by decide) (by decide) (by decide) (by decide) ?_
    intro v105 T105 L105 X105 q105
    obtain ⟨rfl, Nq105, eq105⟩ := q105
    have N105 := Fr.app N103 Nq105
    show Go p e below s _ _ _ T105 (mkF m 136 #[.val (.int x1), .val (.int x2), .val (.int l1), .val (.int l2), .val (.int l3), .val (.int l4), .val (.int (4 : Int32)), .val (.long p0), .second, .val (.long p1), .second, .val (.long p2), .second, .val (.long p3), .second, .val (.ref b1), .val (.ref b6), .unset] [(.long ((1 : Int32) + (l2 &&& (65535 : Int32))).toInt64), (.ref b6)])
    refine wl2d C X105 f0_136 ?_
    refine wiloadN C X105 f0_137 rfl ?_
    refine wstatic C X105 (y := (⟨"com/example/arbor_center/arborcenter/objective/UpperEnvelopeAddPinLaw", "d", "(I)J"⟩ : MethodName)) (tw_27 hw) (tw_28 hw) (tw_24 hw) (tw_29 hw) (by decide) (rm5 l Z a0 hw [] l2 T103.heap n0 (Nat.le_trans q101 K103.1)) eq105 f0_138 (argsL := [(.int l2)]) (rest := [(.double (FP.l2d ((1 : Int32) + (l2 &&& (65535 : Int32))).toInt64)), (.ref b6)]) rfl rfl (lenOf pd_0 rfl) rfl (W := 3) (Nat.le_of_eq rfl) (by decide) (by decide) (by decide) (by decide) ?_
    intro v106 T106 L106 X106 q106
    obtain ⟨rfl, Nq106, eq106⟩ := q106
    have N106 := Fr.app N105 Nq106
    show Go p e below s _ _ _ T106 (mkF m 141 #[.val (.int x1), .val (.int x2), .val (.int l1), .val (.int l2), .val (.int l3), .val (.int l4), .val (.int (4 : Int32)), .val (.long p0), .second, .val (.long p1), .second, .val (.long p2), .second, .val (.long p3), .second, .val (.ref b1), .val (.ref b6), .unset] [(.long ((l2.toUInt32 >>> ((16 : Int32) &&& 31).toUInt32).toInt32 &&& (32767 : Int32)).toInt64), (.double (FP.l2d ((1 : Int32) + (l2 &&& (65535 : Int32))).toInt64)), (.ref b6)])
    refine wl2d C X106 f0_141 ?_
    refine wvirtual C X106 (y := (⟨"com/example/arbor_center/arborcenter/objective/UpperEnvelope", "add", "(DD)V"⟩ : MethodName)) (z := (⟨"com/example/arbor_center/arborcenter/objective/UpperEnvelope", "add", "(DD)V"⟩ : MethodName)) (tw_30 hw) (tw_31 hw) (notFace_of_selects (args := #[]) (mvT C.2.1 (tw_33 hw))) (tw_33 hw) (tw_32 hw) (tw_34 hw) (tw_3 hw) (by decide) (rm6 l Z a0 hw [] b6 (FP.l2d ((1 : Int32) + (l2 &&& (65535 : Int32))).toInt64) (FP.l2d ((l2.toUInt32 >>> ((16 : Int32) &&& 31).toUInt32).toInt32 &&& (32767 : Int32)).toInt64) ph_9 pl_9 k1_9 k2_9 4 [(.double (FP.ddiv (FP.l2d p0) (4611686018427387904 : UInt64))), (.double (FP.ddiv (FP.l2d p1) (4611686018427387904 : UInt64))), (.double (FP.ddiv (FP.l2d p2) (4611686018427387904 : UInt64))), (.double (FP.ddiv (FP.l2d p3) (4611686018427387904 : UInt64)))] (ls'_103) (own_P4 p0.toInt p1.toInt p2.toInt p3.toInt) (W'_103) (D'_103) (((1 : Int32) + (l2 &&& (65535 : Int32))).toInt64.toInt) (((l2.toUInt32 >>> ((16 : Int32) &&& 31).toUInt32).toInt32 &&& (32767 : Int32)).toInt64.toInt) T103.heap n0 (Nat.le_trans q101 K103.1) (G94_1.keep K103 (ninS ne97 nin0)) (G94_2.keep K103 (ninS ne97 nin0)) (G94_3.keep K103 (ninS ne97 nin0)) (G94_4.keep K103 (ninS G9_3 nin0)) G103_0 (Nat.le_trans Z0 szG9_2) ne97 G9_3 G103_1 (own_Ps4 (by decide) (fun _ => own_l2p hp0 (by decide)) (fun _ => own_l2p hp1.2 (by decide)) (fun _ => own_l2p hp2.2 (by decide)) (fun _ => own_l2p hp3.2 (by decide))) (hm0 _ (by decide)) (by decide) (by decide) (own_wd (own_w l2) (own_d l2))) eq106 (a := b6) (G94_0.keep K103) f0_142 (argsL := [(.double (FP.l2d ((1 : Int32) + (l2 &&& (65535 : Int32))).toInt64)), (.double (FP.l2d ((l2.toUInt32 >>> ((16 : Int32) &&& 31).toUInt32).toInt32 &&& (32767 : Int32)).toInt64))]) (rest := []) rfl rfl (lenOf pd_7 rfl) rfl (W := 0) (Nat.le_of_eq rfl) (by decide) (by decide) (by decide) (by decide) ?_
    intro v107 T107 L107 X107 q107
    obtain ⟨ls'_107, W'_107, D'_107, rfl, Nq107, K107, G107_0, G107_1, G107_2⟩ := q107
    have N107 := Fr.app N106 Nq107
    show Go p e below s _ _ _ T107 (mkF m 145 #[.val (.int x1), .val (.int x2), .val (.int l1), .val (.int l2), .val (.int l3), .val (.int l4), .val (.int (4 : Int32)), .val (.long p0), .second, .val (.long p1), .second, .val (.long p2), .second, .val (.long p3), .second, .val (.ref b1), .val (.ref b6), .unset] [])
    refine waload C X107 f0_145 rfl rfl ?_
    refine wiload C X107 f0_147 rfl ?_
    refine wstatic C X107 (y := (⟨"com/example/arbor_center/arborcenter/objective/UpperEnvelopeAddPinLaw", "w", "(I)J"⟩ : MethodName)) (tw_22 hw) (tw_23 hw) (tw_24 hw) (tw_25 hw) (by decide) (rm4 l Z a0 hw [] l3 T107.heap n0 (Nat.le_trans (Nat.le_trans q101 K103.1) K107.1)) rfl f0_149 (argsL := [(.int l3)]) (rest := [(.ref b6)]) rfl rfl (lenOf pd_0 rfl) rfl (W := 1) (Nat.le_of_eq rfl) (by decide) (by decide) (by decide) (by decide) ?_
    intro v108 T108 L108 X108 q108
    obtain ⟨rfl, Nq108, eq108⟩ := q108
    have N108 := Fr.app N107 Nq108
    show Go p e below s _ _ _ T108 (mkF m 152 #[.val (.int x1), .val (.int x2), .val (.int l1), .val (.int l2), .val (.int l3), .val (.int l4), .val (.int (4 : Int32)), .val (.long p0), .second, .val (.long p1), .second, .val (.long p2), .second, .val (.long p3), .second, .val (.ref b1), .val (.ref b6), .unset] [(.long ((1 : Int32) + (l3 &&& (65535 : Int32))).toInt64), (.ref b6)])
    refine wl2d C X108 f0_152 ?_
    refine wiload C X108 f0_153 rfl ?_
    refine wstatic C X108 (y := (⟨"com/example/arbor_center/arborcenter/objective/UpperEnvelopeAddPinLaw", "d", "(I)J"⟩ : MethodName)) (tw_27 hw) (tw_28 hw) (tw_24 hw) (tw_29 hw) (by decide) (rm5 l Z a0 hw [] l3 T107.heap n0 (Nat.le_trans (Nat.le_trans q101 K103.1) K107.1)) eq108 f0_155 (argsL := [(.int l3)]) (rest := [(.double (FP.l2d ((1 : Int32) + (l3 &&& (65535 : Int32))).toInt64)), (.ref b6)]) rfl rfl (lenOf pd_0 rfl) rfl (W := 3) (Nat.le_of_eq rfl) (by decide) (by decide) (by decide) (by decide) ?_
    intro v109 T109 L109 X109 q109
    obtain ⟨rfl, Nq109, eq109⟩ := q109
    have N109 := Fr.app N108 Nq109
    show Go p e below s _ _ _ T109 (mkF m 158 #[.val (.int x1), .val (.int x2), .val (.int l1), .val (.int l2), .val (.int l3), .val (.int l4), .val (.int (4 : Int32)), .val (.long p0), .second, .val (.long p1), .second, .val (.long p2), .second, .val (.long p3), .second, .val (.ref b1), .val (.ref b6), .unset] [(.long ((l3.toUInt32 >>> ((16 : Int32) &&& 31).toUInt32).toInt32 &&& (32767 : Int32)).toInt64), (.double (FP.l2d ((1 : Int32) + (l3 &&& (65535 : Int32))).toInt64)), (.ref b6)])
    refine wl2d C X109 f0_158 ?_
    have q111 := ((G94_1.keep K103 (ninS ne97 nin0)).keep K107 (ninS ne97 nin0))
    have q112 := ((G94_2.keep K103 (ninS ne97 nin0)).keep K107 (ninS ne97 nin0))
    have q113 := ((G94_3.keep K103 (ninS ne97 nin0)).keep K107 (ninS ne97 nin0))
    have q114 := ((G94_4.keep K103 (ninS G9_3 nin0)).keep K107 (ninS G9_3 nin0))
    refine wvirtual C X109 (y := (⟨"com/example/arbor_center/arborcenter/objective/UpperEnvelope", "add", "(DD)V"⟩ : MethodName)) (z := (⟨"com/example/arbor_center/arborcenter/objective/UpperEnvelope", "add", "(DD)V"⟩ : MethodName)) (tw_30 hw) (tw_31 hw) (notFace_of_selects (args := #[]) (mvT C.2.1 (tw_33 hw))) (tw_33 hw) (tw_32 hw) (tw_34 hw) (tw_3 hw) (by decide) (rm6 l Z a0 hw [] b6 (FP.l2d ((1 : Int32) + (l3 &&& (65535 : Int32))).toInt64) (FP.l2d ((l3.toUInt32 >>> ((16 : Int32) &&& 31).toUInt32).toInt32 &&& (32767 : Int32)).toInt64) ph_9 pl_9 k1_9 k2_9 4 [(.double (FP.ddiv (FP.l2d p0) (4611686018427387904 : UInt64))), (.double (FP.ddiv (FP.l2d p1) (4611686018427387904 : UInt64))), (.double (FP.ddiv (FP.l2d p2) (4611686018427387904 : UInt64))), (.double (FP.ddiv (FP.l2d p3) (4611686018427387904 : UInt64)))] (ls'_107) (own_P4 p0.toInt p1.toInt p2.toInt p3.toInt) (W'_107) (D'_107) (((1 : Int32) + (l3 &&& (65535 : Int32))).toInt64.toInt) (((l3.toUInt32 >>> ((16 : Int32) &&& 31).toUInt32).toInt32 &&& (32767 : Int32)).toInt64.toInt) T107.heap n0 (Nat.le_trans (Nat.le_trans q101 K103.1) K107.1) q111 q112 q113 q114 G107_0 (Nat.le_trans Z0 szG9_2) ne97 G9_3 G107_1 (own_Ps4 (by decide) (fun _ => own_l2p hp0 (by decide)) (fun _ => own_l2p hp1.2 (by decide)) (fun _ => own_l2p hp2.2 (by decide)) (fun _ => own_l2p hp3.2 (by decide))) (hm0 _ (by decide)) (by decide) (by decide) (own_wd (own_w l3) (own_d l3))) eq109 (a := b6) ((G94_0.keep K103).keep K107) f0_159 (argsL := [(.double (FP.l2d ((1 : Int32) + (l3 &&& (65535 : Int32))).toInt64)), (.double (FP.l2d ((l3.toUInt32 >>> ((16 : Int32) &&& 31).toUInt32).toInt32 &&& (32767 : Int32)).toInt64))]) (rest := []) rfl rfl (lenOf pd_7 rfl) rfl (W := 0) (Nat.le_of_eq rfl) (by decide) (by decide) (by decide) (by decide) ?_
    intro v110 T110 L110 X110 q110
    obtain ⟨ls'_110, W'_110, D'_110, rfl, Nq110, K110, G110_0, G110_1, G110_2⟩ := q110
    have N110 := Fr.app N109 Nq110
    show Go p e below s _ _ _ T110 (mkF m 162 #[.val (.int x1), .val (.int x2), .val (.int l1), .val (.int l2), .val (.int l3), .val (.int l4), .val (.int (4 : Int32)), .val (.long p0), .second, .val (.long p1), .second, .val (.long p2), .second, .val (.long p3), .second, .val (.ref b1), .val (.ref b6), .unset] [])
    refine waload C X110 f0_162 rfl rfl ?_
    refine wiload C X110 f0_164 rfl ?_
    have q116 := (Nat.le_trans (Nat.le_trans (Nat.le_trans q101 K103.1) K107.1) K110.1)
    refine wstatic C X110 (y := (⟨"com/example/arbor_center/arborcenter/objective/UpperEnvelopeAddPinLaw", "w", "(I)J"⟩ : MethodName)) (tw_22 hw) (tw_23 hw) (tw_24 hw) (tw_25 hw) (by decide) (rm4 l Z a0 hw [] l4 T110.heap n0 q116) rfl f0_166 (argsL := [(.int l4)]) (rest := [(.ref b6)]) rfl rfl (lenOf pd_0 rfl) rfl (W := 1) (Nat.le_of_eq rfl) (by decide) (by decide) (by decide) (by decide) ?_
    intro v115 T115 L115 X115 q115
    obtain ⟨rfl, Nq115, eq115⟩ := q115
    have N115 := Fr.app N110 Nq115
    show Go p e below s _ _ _ T115 (mkF m 169 #[.val (.int x1), .val (.int x2), .val (.int l1), .val (.int l2), .val (.int l3), .val (.int l4), .val (.int (4 : Int32)), .val (.long p0), .second, .val (.long p1), .second, .val (.long p2), .second, .val (.long p3), .second, .val (.ref b1), .val (.ref b6), .unset] [(.long ((1 : Int32) + (l4 &&& (65535 : Int32))).toInt64), (.ref b6)])
    refine wl2d C X115 f0_169 ?_
    refine wiload C X115 f0_170 rfl ?_
    refine wstatic C X115 (y := (⟨"com/example/arbor_center/arborcenter/objective/UpperEnvelopeAddPinLaw", "d", "(I)J"⟩ : MethodName)) (tw_27 hw) (tw_28 hw) (tw_24 hw) (tw_29 hw) (by decide) (rm5 l Z a0 hw [] l4 T110.heap n0 q116) eq115 f0_172 (argsL := [(.int l4)]) (rest := [(.double (FP.l2d ((1 : Int32) + (l4 &&& (65535 : Int32))).toInt64)), (.ref b6)]) rfl rfl (lenOf pd_0 rfl) rfl (W := 3) (Nat.le_of_eq rfl) (by decide) (by decide) (by decide) (by decide) ?_
    intro v117 T117 L117 X117 q117
    obtain ⟨rfl, Nq117, eq117⟩ := q117
    have N117 := Fr.app N115 Nq117
    show Go p e below s _ _ _ T117 (mkF m 175 #[.val (.int x1), .val (.int x2), .val (.int l1), .val (.int l2), .val (.int l3), .val (.int l4), .val (.int (4 : Int32)), .val (.long p0), .second, .val (.long p1), .second, .val (.long p2), .second, .val (.long p3), .second, .val (.ref b1), .val (.ref b6), .unset] [(.long ((l4.toUInt32 >>> ((16 : Int32) &&& 31).toUInt32).toInt32 &&& (32767 : Int32)).toInt64), (.double (FP.l2d ((1 : Int32) + (l4 &&& (65535 : Int32))).toInt64)), (.ref b6)])
    refine wl2d C X117 f0_175 ?_
    refine wvirtual C X117 (y := (⟨"com/example/arbor_center/arborcenter/objective/UpperEnvelope", "add", "(DD)V"⟩ : MethodName)) (z := (⟨"com/example/arbor_center/arborcenter/objective/UpperEnvelope", "add", "(DD)V"⟩ : MethodName)) (tw_30 hw) (tw_31 hw) (notFace_of_selects (args := #[]) (mvT C.2.1 (tw_33 hw))) (tw_33 hw) (tw_32 hw) (tw_34 hw) (tw_3 hw) (by decide) (rm6 l Z a0 hw [] b6 (FP.l2d ((1 : Int32) + (l4 &&& (65535 : Int32))).toInt64) (FP.l2d ((l4.toUInt32 >>> ((16 : Int32) &&& 31).toUInt32).toInt32 &&& (32767 : Int32)).toInt64) ph_9 pl_9 k1_9 k2_9 4 [(.double (FP.ddiv (FP.l2d p0) (4611686018427387904 : UInt64))), (.double (FP.ddiv (FP.l2d p1) (4611686018427387904 : UInt64))), (.double (FP.ddiv (FP.l2d p2) (4611686018427387904 : UInt64))), (.double (FP.ddiv (FP.l2d p3) (4611686018427387904 : UInt64)))] (ls'_110) (own_P4 p0.toInt p1.toInt p2.toInt p3.toInt) (W'_110) (D'_110) (((1 : Int32) + (l4 &&& (65535 : Int32))).toInt64.toInt) (((l4.toUInt32 >>> ((16 : Int32) &&& 31).toUInt32).toInt32 &&& (32767 : Int32)).toInt64.toInt) T110.heap n0 q116 (q111.keep K110 (ninS ne97 nin0)) (q112.keep K110 (ninS ne97 nin0)) (q113.keep K110 (ninS ne97 nin0)) (q114.keep K110 (ninS G9_3 nin0)) G110_0 (Nat.le_trans Z0 szG9_2) ne97 G9_3 G110_1 (own_Ps4 (by decide) (fun _ => own_l2p hp0 (by decide)) (fun _ => own_l2p hp1.2 (by decide)) (fun _ => own_l2p hp2.2 (by decide)) (fun _ => own_l2p hp3.2 (by decide))) (hm0 _ (by decide)) (by decide) (by decide) (own_wd (own_w l4) (own_d l4))) eq117 (a := b6) (((G94_0.keep K103).keep K107).keep K110) f0_176 (argsL := [(.double (FP.l2d ((1 : Int32) + (l4 &&& (65535 : Int32))).toInt64)), (.double (FP.l2d ((l4.toUInt32 >>> ((16 : Int32) &&& 31).toUInt32).toInt32 &&& (32767 : Int32)).toInt64))]) (rest := []) rfl rfl (lenOf pd_7 rfl) rfl (W := 0) (Nat.le_of_eq rfl) (by decide) (by decide) (by decide) (by decide) ?_
    intro v118 T118 L118 X118 q118
    obtain ⟨ls'_118, W'_118, D'_118, rfl, Nq118, K118, G118_0, G118_1, G118_2⟩ := q118
    have q119 := (Nat.le_trans (Nat.le_trans (Nat.le_trans q104 K103.1) K107.1) K110.1)
    have N118 := Fr.app N117 Nq118
    show Go p e below s _ _ _ T118 (mkF m 179 #[.val (.int x1), .val (.int x2), .val (.int l1), .val (.int l2), .val (.int l3), .val (.int l4), .val (.int (4 : Int32)), .val (.long p0), .second, .val (.long p1), .second, .val (.long p2), .second, .val (.long p3), .second, .val (.ref b1), .val (.ref b6), .unset] [])
    refine waload C X118 f0_179 rfl rfl ?_
    refine wiconst C X118 f0_181 (0 : Int32) rfl ?_
    refine wlload C X118 f0_182 rfl ?_
    refine wiloadN C X118 f0_184 rfl ?_
    refine wiloadN C X118 f0_185 rfl ?_
    refine wiload C X118 f0_186 rfl ?_
    refine wiload C X118 f0_188 rfl ?_
    have q121 := ((q111.keep K110 (ninS ne97 nin0)).keep K118 (ninS ne97 nin0))
    have q122 := ((q112.keep K110 (ninS ne97 nin0)).keep K118 (ninS ne97 nin0))
    have q123 := ((q113.keep K110 (ninS ne97 nin0)).keep K118 (ninS ne97 nin0))
    have q124 := ((q114.keep K110 (ninS G9_3 nin0)).keep K118 (ninS G9_3 nin0))
    refine wstatic C X118 (y := (⟨"com/example/arbor_center/arborcenter/objective/UpperEnvelopeAddPinLaw", "check", "(Lcom/example/arbor_center/arborcenter/objective/UpperEnvelope;IJIIII)Z"⟩ : MethodName)) (tw_35 hw) (tw_36 hw) (tw_24 hw) (tw_37 hw) (by decide) (rm7_4_0 l Z a0 hw [] b6 (0 : Int32) p0 l1 l2 l3 l4 ph_9 pl_9 k1_9 k2_9 [(.double (FP.ddiv (FP.l2d p0) (4611686018427387904 : UInt64))), (.double (FP.ddiv (FP.l2d p1) (4611686018427387904 : UInt64))), (.double (FP.ddiv (FP.l2d p2) (4611686018427387904 : UInt64))), (.double (FP.ddiv (FP.l2d p3) (4611686018427387904 : UInt64)))] (ls'_118) (own_P4 p0.toInt p1.toInt p2.toInt p3.toInt) (W'_118) (D'_118) T118.heap n0 (Nat.le_trans q116 K118.1) ((((G94_0.keep K103).keep K107).keep K110).keep K118) q121 q122 q123 q124 G118_0 rfl G118_1 (own_Ps4 (by decide) (fun _ => own_l2p hp0 (by decide)) (fun _ => own_l2p hp1.2 (by decide)) (fun _ => own_l2p hp2.2 (by decide)) (fun _ => own_l2p hp3.2 (by decide))) (own_fin (G103_2 0 (by decide)) (G107_2 0 (by decide)) (G110_2 0 (by decide)) (G118_2 0 (by decide)) (by simp [own_pm, own_upd]) mm0.2.1 hB0.1) hB0.2) rfl f0_190 (argsL := [(.ref b6), (.int (0 : Int32)), (.long p0), (.int l1), (.int l2), (.int l3), (.int l4)]) (rest := []) rfl rfl (lenOf pd_8 rfl) rfl (W := 0) (Nat.le_of_eq rfl) (by decide) (by decide) (by decide) (by decide) ?_
    intro v120 T120 L120 X120 q120
    obtain ⟨rfl, Nq120, eq120⟩ := q120
    have N120 := Fr.app N118 Nq120
    show Go p e below s _ _ _ T120 (mkF m 193 #[.val (.int x1), .val (.int x2), .val (.int l1), .val (.int l2), .val (.int l3), .val (.int l4), .val (.int (4 : Int32)), .val (.long p0), .second, .val (.long p1), .second, .val (.long p2), .second, .val (.long p3), .second, .val (.ref b1), .val (.ref b6), .unset] [(.int (1 : Int32))])
    refine wistore C X120 f0_193 #[.val (.int x1), .val (.int x2), .val (.int l1), .val (.int l2), .val (.int l3), .val (.int l4), .val (.int (4 : Int32)), .val (.long p0), .second, .val (.long p1), .second, .val (.long p2), .second, .val (.long p3), .second, .val (.ref b1), .val (.ref b6), .val (.int (1 : Int32))] rfl ?_
    refine wiload C X120 f0_195 rfl ?_
    refine wiconst C X120 f0_197 (1 : Int32) rfl ?_
    refine wicmp_le C X120 f0_198 ?_ (fun q => absurd (by decide : ((1 : Int32) < (4 : Int32))) q)
    intro _
    refine wiload C X120 f0_201 rfl ?_
    refine wif_eq C X120 f0_203 (fun q => absurd q (by decide : ¬ ((1 : Int32) = (0 : Int32)))) ?_
    intro _
    refine waload C X120 f0_206 rfl rfl ?_
    refine wiconst C X120 f0_208 (1 : Int32) rfl ?_
    refine wlload C X120 f0_209 rfl ?_
    refine wiloadN C X120 f0_211 rfl ?_
    refine wiloadN C X120 f0_212 rfl ?_
    refine wiload C X120 f0_213 rfl ?_
    refine wiload C X120 f0_215 rfl ?_
    refine wstatic C X120 (y := (⟨"com/example/arbor_center/arborcenter/objective/UpperEnvelopeAddPinLaw", "check", "(Lcom/example/arbor_center/arborcenter/objective/UpperEnvelope;IJIIII)Z"⟩ : MethodName)) (tw_35 hw) (tw_36 hw) (tw_24 hw) (tw_37 hw) (by decide) (rm7_4_1 l Z a0 hw [] b6 (1 : Int32) p1 l1 l2 l3 l4 ph_9 pl_9 k1_9 k2_9 [(.double (FP.ddiv (FP.l2d p0) (4611686018427387904 : UInt64))), (.double (FP.ddiv (FP.l2d p1) (4611686018427387904 : UInt64))), (.double (FP.ddiv (FP.l2d p2) (4611686018427387904 : UInt64))), (.double (FP.ddiv (FP.l2d p3) (4611686018427387904 : UInt64)))] (ls'_118) (own_P4 p0.toInt p1.toInt p2.toInt p3.toInt) (W'_118) (D'_118) T118.heap n0 (Nat.le_trans q116 K118.1) ((((G94_0.keep K103).keep K107).keep K110).keep K118) q121 q122 q123 q124 G118_0 rfl G118_1 (own_Ps4 (by decide) (fun _ => own_l2p hp0 (by decide)) (fun _ => own_l2p hp1.2 (by decide)) (fun _ => own_l2p hp2.2 (by decide)) (fun _ => own_l2p hp3.2 (by decide))) (own_fin (G103_2 1 (by decide)) (G107_2 1 (by decide)) (G110_2 1 (by decide)) (G118_2 1 (by decide)) (by simp [own_pm, own_upd]) mm1.2.1 hB1.1) hB1.2) eq120 f0_217 (argsL := [(.ref b6), (.int (1 : Int32)), (.long p1), (.int l1), (.int l2), (.int l3), (.int l4)]) (rest := []) rfl rfl (lenOf pd_8 rfl) rfl (W := 0) (Nat.le_of_eq rfl) (by decide) (by decide) (by decide) (by decide) ?_
    intro v125 T125 L125 X125 q125
    obtain ⟨rfl, Nq125, eq125⟩ := q125
    have N125 := Fr.app N120 Nq125
    show Go p e below s _ _ _ T125 (mkF m 220 #[.val (.int x1), .val (.int x2), .val (.int l1), .val (.int l2), .val (.int l3), .val (.int l4), .val (.int (4 : Int32)), .val (.long p0), .second, .val (.long p1), .second, .val (.long p2), .second, .val (.long p3), .second, .val (.ref b1), .val (.ref b6), .val (.int (1 : Int32))] [(.int (1 : Int32))])
    refine wif_eq C X125 f0_220 (fun q => absurd q (by decide : ¬ ((1 : Int32) = (0 : Int32)))) ?_
    intro _
    refine wiconst C X125 f0_223 (1 : Int32) rfl ?_
    refine wgoto C X125 f0_224 ?_
    refine wistore C X125 f0_228 #[.val (.int x1), .val (.int x2), .val (.int l1), .val (.int l2), .val (.int l3), .val (.int l4), .val (.int (4 : Int32)), .val (.long p0), .second, .val (.long p1), .second, .val (.long p2), .second, .val (.long p3), .second, .val (.ref b1), .val (.ref b6), .val (.int (1 : Int32))] rfl ?_
    refine wiload C X125 f0_230 rfl ?_
    refine wiconst C X125 f0_232 (2 : Int32) rfl ?_
    refine wicmp_le C X125 f0_233 ?_ (fun q => absurd (by decide : ((2 : Int32) < (4 : Int32))) q)
    intro _
    refine wiload C X125 f0_236 rfl ?_
    refine wif_eq C X125 f0_238 (fun q => absurd q (by decide : ¬ ((1 : Int32) = (0 : Int32)))) ?_
    intro _
    refine waload C X125 f0_241 rfl rfl ?_
    refine wiconst C X125 f0_243 (2 : Int32) rfl ?_
    refine wlload C X125 f0_244 rfl ?_
    refine wiloadN C X125 f0_246 rfl ?_
    refine wiloadN C X125 f0_247 rfl ?_
    refine wiload C X125 f0_248 rfl ?_
    refine wiload C X125 f0_250 rfl ?_
    refine wstatic C X125 (y := (⟨"com/example/arbor_center/arborcenter/objective/UpperEnvelopeAddPinLaw", "check", "(Lcom/example/arbor_center/arborcenter/objective/UpperEnvelope;IJIIII)Z"⟩ : MethodName)) (tw_35 hw) (tw_36 hw) (tw_24 hw) (tw_37 hw) (by decide) (rm7_4_2 l Z a0 hw [] b6 (2 : Int32) p2 l1 l2 l3 l4 ph_9 pl_9 k1_9 k2_9 [(.double (FP.ddiv (FP.l2d p0) (4611686018427387904 : UInt64))), (.double (FP.ddiv (FP.l2d p1) (4611686018427387904 : UInt64))), (.double (FP.ddiv (FP.l2d p2) (4611686018427387904 : UInt64))), (.double (FP.ddiv (FP.l2d p3) (4611686018427387904 : UInt64)))] (ls'_118) (own_P4 p0.toInt p1.toInt p2.toInt p3.toInt) (W'_118) (D'_118) T118.heap n0 (Nat.le_trans q116 K118.1) ((((G94_0.keep K103).keep K107).keep K110).keep K118) q121 q122 q123 q124 G118_0 rfl G118_1 (own_Ps4 (by decide) (fun _ => own_l2p hp0 (by decide)) (fun _ => own_l2p hp1.2 (by decide)) (fun _ => own_l2p hp2.2 (by decide)) (fun _ => own_l2p hp3.2 (by decide))) (own_fin (G103_2 2 (by decide)) (G107_2 2 (by decide)) (G110_2 2 (by decide)) (G118_2 2 (by decide)) (by simp [own_pm, own_upd]) mm2.2.1 hB2.1) hB2.2) eq125 f0_252 (argsL := [(.ref b6), (.int (2 : Int32)), (.long p2), (.int l1), (.int l2), (.int l3), (.int l4)]) (rest := []) rfl rfl (lenOf pd_8 rfl) rfl (W := 0) (Nat.le_of_eq rfl) (by decide) (by decide) (by decide) (by decide) ?_
    intro v126 T126 L126 X126 q126
    obtain ⟨rfl, Nq126, eq126⟩ := q126
    have N126 := Fr.app N125 Nq126
    show Go p e below s _ _ _ T126 (mkF m 255 #[.val (.int x1), .val (.int x2), .val (.int l1), .val (.int l2), .val (.int l3), .val (.int l4), .val (.int (4 : Int32)), .val (.long p0), .second, .val (.long p1), .second, .val (.long p2), .second, .val (.long p3), .second, .val (.ref b1), .val (.ref b6), .val (.int (1 : Int32))] [(.int (1 : Int32))])
    refine wif_eq C X126 f0_255 (fun q => absurd q (by decide : ¬ ((1 : Int32) = (0 : Int32)))) ?_
    intro _
    refine wiconst C X126 f0_258 (1 : Int32) rfl ?_
    refine wgoto C X126 f0_259 ?_
    refine wistore C X126 f0_263 #[.val (.int x1), .val (.int x2), .val (.int l1), .val (.int l2), .val (.int l3), .val (.int l4), .val (.int (4 : Int32)), .val (.long p0), .second, .val (.long p1), .second, .val (.long p2), .second, .val (.long p3), .second, .val (.ref b1), .val (.ref b6), .val (.int (1 : Int32))] rfl ?_
    refine wiload C X126 f0_265 rfl ?_
    refine wiconst C X126 f0_267 (3 : Int32) rfl ?_
    refine wicmp_le C X126 f0_268 ?_ (fun q => absurd (by decide : ((3 : Int32) < (4 : Int32))) q)
    intro _
    refine wiload C X126 f0_271 rfl ?_
    refine wif_eq C X126 f0_273 (fun q => absurd q (by decide : ¬ ((1 : Int32) = (0 : Int32)))) ?_
    intro _
    refine waload C X126 f0_276 rfl rfl ?_
    refine wiconst C X126 f0_278 (3 : Int32) rfl ?_
    refine wlload C X126 f0_279 rfl ?_
    refine wiloadN C X126 f0_281 rfl ?_
    refine wiloadN C X126 f0_282 rfl ?_
    refine wiload C X126 f0_283 rfl ?_
    refine wiload C X126 f0_285 rfl ?_
    refine wstatic C X126 (y := (⟨"com/example/arbor_center/arborcenter/objective/UpperEnvelopeAddPinLaw", "check", "(Lcom/example/arbor_center/arborcenter/objective/UpperEnvelope;IJIIII)Z"⟩ : MethodName)) (tw_35 hw) (tw_36 hw) (tw_24 hw) (tw_37 hw) (by decide) (rm7_4_3 l Z a0 hw [] b6 (3 : Int32) p3 l1 l2 l3 l4 ph_9 pl_9 k1_9 k2_9 [(.double (FP.ddiv (FP.l2d p0) (4611686018427387904 : UInt64))), (.double (FP.ddiv (FP.l2d p1) (4611686018427387904 : UInt64))), (.double (FP.ddiv (FP.l2d p2) (4611686018427387904 : UInt64))), (.double (FP.ddiv (FP.l2d p3) (4611686018427387904 : UInt64)))] (ls'_118) (own_P4 p0.toInt p1.toInt p2.toInt p3.toInt) (W'_118) (D'_118) T118.heap n0 (Nat.le_trans q116 K118.1) ((((G94_0.keep K103).keep K107).keep K110).keep K118) q121 q122 q123 q124 G118_0 rfl G118_1 (own_Ps4 (by decide) (fun _ => own_l2p hp0 (by decide)) (fun _ => own_l2p hp1.2 (by decide)) (fun _ => own_l2p hp2.2 (by decide)) (fun _ => own_l2p hp3.2 (by decide))) (own_fin (G103_2 3 (by decide)) (G107_2 3 (by decide)) (G110_2 3 (by decide)) (G118_2 3 (by decide)) (by simp [own_pm, own_upd]) mm3.2.1 hB3.1) hB3.2) eq126 f0_287 (argsL := [(.ref b6), (.int (3 : Int32)), (.long p3), (.int l1), (.int l2), (.int l3), (.int l4)]) (rest := []) rfl rfl (lenOf pd_8 rfl) rfl (W := 0) (Nat.le_of_eq rfl) (by decide) (by decide) (by decide) (by decide) ?_
    intro v127 T127 L127 X127 q127
    obtain ⟨rfl, Nq127, eq127⟩ := q127
    have N127 := Fr.app N126 Nq127
    show Go p e below s _ _ _ T127 (mkF m 290 #[.val (.int x1), .val (.int x2), .val (.int l1), .val (.int l2), .val (.int l3), .val (.int l4), .val (.int (4 : Int32)), .val (.long p0), .second, .val (.long p1), .second, .val (.long p2), .second, .val (.long p3), .second, .val (.ref b1), .val (.ref b6), .val (.int (1 : Int32))] [(.int (1 : Int32))])
    refine wif_eq C X127 f0_290 (fun q => absurd q (by decide : ¬ ((1 : Int32) = (0 : Int32)))) ?_
    intro _
    refine wiconst C X127 f0_293 (1 : Int32) rfl ?_
    refine wgoto C X127 f0_294 ?_
    refine wistore C X127 f0_298 #[.val (.int x1), .val (.int x2), .val (.int l1), .val (.int l2), .val (.int l3), .val (.int l4), .val (.int (4 : Int32)), .val (.long p0), .second, .val (.long p1), .second, .val (.long p2), .second, .val (.long p3), .second, .val (.ref b1), .val (.ref b6), .val (.int (1 : Int32))] rfl ?_
    refine wiload C X127 f0_300 rfl ?_
    refine wiretN C X127 (t := .boolean) (by simp) f0_302 rfl (1 : Int32) (by decide) (by decide) (by decide) ?_
    rw [eq127]
    exact ⟨rfl, N127⟩
set_option maxRecDepth 65536 in
set_option maxHeartbeats 40000000 in
theorem comes_1 {Post : Tables → Env → Array Value → State → Outcome → State → Prop} (hpost : ∀ tb e args s v u, (limb_1_1.after args s (.returned v) u = true ∧ limb_1_2.after args s (.returned v) u = true ∧ True) → FrameEnd s (.returned v) u (Jvm.fieldLocs frame_1_writes args s ++ Jvm.arrayLocs frame_1_arrays args s ++ Jvm.staticLocs frame_1_statics s) 16 128 → Post tb e args s (.returned v) u) :
    ArmFor flags0 classFile x code maxLocals ret World_1 tables_1 room_1 Calls_1 rest_1 Pre_1 Post := by
  intro l hfl _ _ p e ha hc hk s m args below hf hA hF happ hP
  obtain ⟨hcalls, hrest, hpre⟩ := hP
  obtain ⟨-, -, -, hnamed, -, -, -, hat⟩ := (Spec.applies_iff hf).mp happ
  obtain ⟨hg, hn⟩ := and_e (Cond.before_iff.mp (show (Jvm.Cond.and given_1 narrow_1).before args s = true from hpre))
  obtain ⟨hg0, hr0⟩ := and_e hg
  obtain ⟨hg1, hr1⟩ := and_e hr0
  obtain ⟨hg2, hr2⟩ := and_e hr1
  obtain ⟨hg3, hr3⟩ := and_e hr2
  obtain ⟨hg4, hr4⟩ := and_e hr3
  obtain ⟨hg5, hr5⟩ := and_e hr4
  obtain ⟨w0, w1, w2, w3, w4, w5, rfl⟩ : ∃ w0 w1 w2 w3 w4 w5 : Value, args = #[w0, w1, w2, w3, w4, w5] := by
    have hs : args.size = 6 := by simpa [Cond.value, given_1] using hg0
    obtain ⟨L⟩ := args
    match L, hs with
    | [w0, w1, w2, w3, w4, w5], _ => exact ⟨w0, w1, w2, w3, w4, w5, rfl⟩
  have hw := fun d (hd : d ∈ tables_1) => atoms_spec (ws := Jvm.Cond.code x code maxLocals ret :: tables_1) hat d (List.mem_cons_of_mem _ hd)
  have hfit : Fit s := fun {y c} hc i hi => by
    obtain ⟨ha, rfl⟩ := Array.getElem?_eq_some_iff.mp hc
    have q := List.all_eq_true.mp ((Array.all_eq_true_iff_forall_mem.mp hF) _ (Array.getElem_mem ha)) i (List.mem_range.mpr hi)
    simpa [Array.getElem?_eq_getElem hi] using q
  obtain ⟨i0, ei0⟩ := is_v hg1
  obtain rfl : w0 = (.int i0) := Option.some.inj ei0
  obtain ⟨i1, ei1⟩ := is_v hg2
  obtain rfl : w1 = (.int i1) := Option.some.inj ei1
  obtain ⟨i2, ei2⟩ := is_v hg3
  obtain rfl : w2 = (.int i2) := Option.some.inj ei2
  obtain ⟨i3, ei3⟩ := is_v hg4
  obtain rfl : w3 = (.int i3) := Option.some.inj ei3
  obtain ⟨i4, ei4⟩ := is_v hg5
  obtain rfl : w4 = (.int i4) := Option.some.inj ei4
  obtain ⟨i5, ei5⟩ := is_v hr5
  obtain rfl : w5 = (.int i5) := Option.some.inj ei5
  obtain ⟨n, o, h1, h2, h3, _, L, rfl, ⟨rfl, N⟩, hq⟩ := rm0 l s _ hw tables_1 i0 i1 i2 i3 i4 i5 s.heap s.heap.size (Nat.le_refl _) p e ha hc hk s m _ below hf ((Spec.applies_iff_loose hf).mp happ).1 ⟨rfl, State.Warmed39.refl s, rfl⟩ trivial
  refine ⟨n, _, h1, h2, h3, hpost _ _ _ _ _ _ ⟨Cond.after_iff.mpr rfl, Cond.after_iff.mpr (eq_i res_at (Term.int_eval (1)) rfl), trivial⟩ ⟨hq.1, hq.2.1, (hq.2.2.sift fun y hy => Or.inr (N y hy)).mono (by decide) (by decide)⟩⟩
theorem main_1_1 : Claimed_1_1 := comes_1 fun _ _ _ _ _ _ h hF => ⟨h.1, hF⟩
theorem main_1_2 : Claimed_1_2 := comes_1 fun _ _ _ _ _ _ h hF => ⟨h.2.1, hF⟩
end Jvm.Pilot.@@N@@
-- WITNESS
namespace Jvm.Pilot.@@N@@
open Jvm Jvm.ClassFile Sem Op Lib Jvm.Free Jvm.Stand Jvm.Pilot.@@N@@.Jvm.D
/-! MADE BY PROGRAM (witnessworld.py) out of the Statement's table words and the real class files: 12 classes; the members and pool entries that the words name. The judged class is class 1, her method 1. -/
namespace start1
open Jvm.ClassFile
def u (s : String) : CpInfo := .utf8 (stringToUtf16 s)
/-- a pool by its gaps: so many unusable entries, then the entry; so many at the end -/
def gap : Nat → List CpInfo → List CpInfo
  | 0, r => r
  | n + 1, r => .unusable :: gap n r
def poolList (es : List (Nat × CpInfo)) (last : Nat) : List CpInfo := es.foldr (fun e r => gap e.1 (e.2 :: r)) (gap last [])
def pool (es : List (Nat × CpInfo)) (last : Nat) : Array CpInfo := ⟨poolList es last⟩
def fileOf (pool : Array CpInfo) (this : Nat) (attrs : Array Attribute := #[]) (ms : Array MethodInfo := #[]) (fl : Nat := 33) (sup : Nat := 0) (ifs : Array Nat := #[]) (fds : Array FieldInfo := #[]) : ClassFile where
  minorVersion := 0
  majorVersion := 65
  constantPool := pool
  accessFlags := fl
  thisClass := this
  superClass := sup
  interfaces := ifs
  fields := fds
  methods := ms
  attributes := attrs
def plain (name : String) (sup : Option ClassId) : Class where
  name := name
  kind := .ordinary
  loader := none
  accessFlags := 33
  super := sup
  interfaces := #[]
  cf := none
  fields := #[]
  methods := #[]
  instanceTypes := #[]
  staticTypes := #[]
  resolved := #[]
  callSites := []
  init := .initialized
  statics := none
  mirror := none

def pool0 : Array CpInfo := pool [(5, u "<init>"), (0, u "()V"), (1, .class_ 10), (1, u "java/lang/Object")] 113

def k0c0 : Code := { maxStack := 0, maxLocals := 1, code := object_method_1_code, exceptionTable := #[], attributes := #[] }
def k0m0 : Method := { name := "<init>", desc := "()V", sig := { parameters := [], returnType := none }, accessFlags := 1, code := some k0c0 }
/-- java/lang/Object -/
def k0 : Class := { plain "java/lang/Object" none with
  accessFlags := 33
  interfaces := #[]
  cf := some (fileOf pool0 8 #[] #[{ accessFlags := 1, nameIndex := 5, descriptorIndex := 6, attributes := #[] }] 33 0 #[] #[])
  fields := #[]
  methods := #[k0m0]
  instanceTypes := #[]
  staticTypes := #[]
  resolved := Array.replicate 124 none
  statics := none }

def pool1 : Array CpInfo := pool [(2, .class_ 4), (1, u "java/lang/Object"), (0, u "<init>"), (0, u "()V"), (0, .class_ 8), (0, u "com/example/arbor_center/arborcenter/objective/UpperEnvelope"), (0, .methodref 7 10), (0, .nameAndType 5 11), (0, u "(I)V"), (0, .methodref 7 13), (0, .nameAndType 14 15), (0, u "reset"), (0, u "([DI)V"), (0, .methodref 17 18), (0, .class_ 19), (0, .nameAndType 20 21), (0, u "com/example/arbor_center/arborcenter/objective/UpperEnvelopeAddPinLaw"), (0, u "w"), (0, u "(I)J"), (0, .methodref 17 23), (0, .nameAndType 24 21), (0, u "d"), (0, .methodref 7 26), (0, .nameAndType 27 28), (0, u "add"), (0, u "(DD)V"), (0, .methodref 17 30), (0, .nameAndType 31 32), (0, u "check"), (0, u "(Lcom/example/arbor_center/arborcenter/objective/UpperEnvelope;IJIIII)Z"), (0, .integer 65535), (0, .methodref 17 35), (0, .nameAndType 36 37), (0, u "value"), (0, u "(JI)J"), (0, .methodref 39 40), (0, .class_ 41), (0, .nameAndType 42 43), (0, u "java/lang/Math"), (0, u "max"), (0, u "(JJ)J"), (0, .methodref 7 45), (0, .nameAndType 46 47), (0, u "at"), (0, u "(I)D"), (0, .methodref 17 49), (0, .nameAndType 50 51), (0, u "best"), (0, u "(JIIII)J"), (2, u "law"), (0, u "(IIIIII)Z")] 5

def k1m0 : Method := { name := "<init>", desc := "()V", sig := { parameters := [], returnType := none }, accessFlags := 1, code := none }
def k1c1 : Code := { maxStack := 8, maxLocals := 18, code := code, exceptionTable := #[], attributes := #[] }
def k1m1 : Method := { name := "law", desc := "(IIIIII)Z", sig := { parameters := [.int, .int, .int, .int, .int, .int], returnType := some .boolean }, accessFlags := 9, code := some k1c1 }
def k1c2 : Code := { maxStack := 3, maxLocals := 1, code := method_3_code, exceptionTable := #[], attributes := #[] }
def k1m2 : Method := { name := "w", desc := "(I)J", sig := { parameters := [.int], returnType := some .long }, accessFlags := 10, code := some k1c2 }
def k1c3 : Code := { maxStack := 2, maxLocals := 1, code := method_4_code, exceptionTable := #[], attributes := #[] }
def k1m3 : Method := { name := "d", desc := "(I)J", sig := { parameters := [.int], returnType := some .long }, accessFlags := 10, code := some k1c3 }
def k1c4 : Code := { maxStack := 6, maxLocals := 3, code := method_5_code, exceptionTable := #[], attributes := #[] }
def k1m4 : Method := { name := "value", desc := "(JI)J", sig := { parameters := [.long, .int], returnType := some .long }, accessFlags := 10, code := some k1c4 }
def k1c5 : Code := { maxStack := 5, maxLocals := 8, code := method_6_code, exceptionTable := #[], attributes := #[] }
def k1m5 : Method := { name := "best", desc := "(JIIII)J", sig := { parameters := [.long, .int, .int, .int, .int], returnType := some .long }, accessFlags := 10, code := some k1c5 }
def k1c6 : Code := { maxStack := 8, maxLocals := 8, code := method_7_code, exceptionTable := #[], attributes := #[] }
def k1m6 : Method := { name := "check", desc := "(Lcom/example/arbor_center/arborcenter/objective/UpperEnvelope;IJIIII)Z", sig := { parameters := [(.object "com/example/arbor_center/arborcenter/objective/UpperEnvelope"), .int, .long, .int, .int, .int, .int], returnType := some .boolean }, accessFlags := 10, code := some k1c6 }
/-- com/example/arbor_center/arborcenter/objective/UpperEnvelopeAddPinLaw -/
def k1 : Class := { plain "com/example/arbor_center/arborcenter/objective/UpperEnvelopeAddPinLaw" (some 0) with
  accessFlags := 49
  interfaces := #[]
  cf := some (fileOf pool1 17 #[] #[{ accessFlags := 1, nameIndex := 5, descriptorIndex := 6, attributes := #[] }, { accessFlags := 9, nameIndex := 54, descriptorIndex := 55, attributes := #[] }, { accessFlags := 10, nameIndex := 20, descriptorIndex := 21, attributes := #[] }, { accessFlags := 10, nameIndex := 24, descriptorIndex := 21, attributes := #[] }, { accessFlags := 10, nameIndex := 36, descriptorIndex := 37, attributes := #[] }, { accessFlags := 10, nameIndex := 50, descriptorIndex := 51, attributes := #[] }, { accessFlags := 10, nameIndex := 31, descriptorIndex := 32, attributes := #[] }] 49 2 #[] #[])
  fields := #[]
  methods := #[k1m0, k1m1, k1m2, k1m3, k1m4, k1m5, k1m6]
  instanceTypes := #[]
  staticTypes := #[]
  resolved := Array.replicate 61 none
  statics := none }

def pool2 : Array CpInfo := pool [(1, .methodref 2 3), (0, .class_ 4), (0, .nameAndType 5 6), (0, u "java/lang/Object"), (0, u "<init>"), (0, u "()V"), (0, .fieldref 8 9), (0, .class_ 10), (0, .nameAndType 11 12), (0, u "com/example/arbor_center/arborcenter/objective/UpperEnvelope"), (0, u "halfPoints"), (0, u "[D"), (0, .fieldref 8 14), (0, .nameAndType 15 12), (0, u "lines"), (0, .fieldref 8 17), (0, .nameAndType 18 19), (0, u "count"), (0, u "I"), (0, .double 4611686018427387904), (1, .methodref 23 24), (0, .class_ 25), (0, .nameAndType 26 27), (0, u "java/lang/Math"), (0, u "max"), (0, u "(DD)D"), (0, u "(I)V"), (2, u "reset"), (0, u "([DI)V"), (1, u "add"), (0, u "(DD)V"), (0, u "at"), (0, u "(I)D")] 2

def k2c0 : Code := { maxStack := 4, maxLocals := 2, code := prog_12_method_1_code, exceptionTable := #[], attributes := #[] }
def k2m0 : Method := { name := "<init>", desc := "(I)V", sig := { parameters := [.int], returnType := none }, accessFlags := 0, code := some k2c0 }
def k2c1 : Code := { maxStack := 6, maxLocals := 4, code := prog_12_method_2_code, exceptionTable := #[], attributes := #[] }
def k2m1 : Method := { name := "reset", desc := "([DI)V", sig := { parameters := [(.array .double), .int], returnType := none }, accessFlags := 0, code := some k2c1 }
def k2c2 : Code := { maxStack := 8, maxLocals := 18, code := prog_12_method_3_code, exceptionTable := #[], attributes := #[] }
def k2m2 : Method := { name := "add", desc := "(DD)V", sig := { parameters := [.double, .double], returnType := none }, accessFlags := 0, code := some k2c2 }
def k2c3 : Code := { maxStack := 9, maxLocals := 10, code := prog_12_method_4_code, exceptionTable := #[], attributes := #[] }
def k2m3 : Method := { name := "at", desc := "(I)D", sig := { parameters := [.int], returnType := some .double }, accessFlags := 0, code := some k2c3 }
/-- com/example/arbor_center/arborcenter/objective/UpperEnvelope -/
def k2 : Class := { plain "com/example/arbor_center/arborcenter/objective/UpperEnvelope" (some 0) with
  accessFlags := 48
  interfaces := #[]
  cf := some (fileOf pool2 8 #[] #[{ accessFlags := 0, nameIndex := 5, descriptorIndex := 28, attributes := #[] }, { accessFlags := 0, nameIndex := 31, descriptorIndex := 32, attributes := #[] }, { accessFlags := 0, nameIndex := 34, descriptorIndex := 35, attributes := #[] }, { accessFlags := 0, nameIndex := 36, descriptorIndex := 37, attributes := #[] }] 48 2 #[] #[{ accessFlags := 18, nameIndex := 11, descriptorIndex := 12, attributes := #[] }, { accessFlags := 2, nameIndex := 18, descriptorIndex := 19, attributes := #[] }, { accessFlags := 18, nameIndex := 15, descriptorIndex := 12, attributes := #[] }])
  fields := #[{ name := "halfPoints", type := (.array .double), accessFlags := 18, slot := 0, constantValue := 0 }, { name := "count", type := .int, accessFlags := 2, slot := 1, constantValue := 0 }, { name := "lines", type := (.array .double), accessFlags := 18, slot := 2, constantValue := 0 }]
  methods := #[k2m0, k2m1, k2m2, k2m3]
  instanceTypes := #[(.array .double), .int, (.array .double)]
  staticTypes := #[]
  resolved := Array.replicate 40 none
  statics := none }

def pool3 : Array CpInfo := pool [(1, .class_ 2), (0, u "java/lang/Math"), (1, .class_ 6), (1, u "java/lang/Object"), (0, u "<init>"), (0, u "()V"), (43, u "(DD)D"), (45, .class_ 100), (1, u "java/lang/Math$RandomNumberGeneratorHolder"), (20, u "(JJ)J"), (50, u "negativeZeroFloatBits"), (0, u "J"), (2, u "negativeZeroDoubleBits"), (21, u "max"), (46, u "$assertionsDisabled"), (0, u "Z"), (91, u "twoToTheDoubleScaleDown"), (0, u "D"), (4, u "twoToTheDoubleScaleUp"), (9, u "E"), (3, u "PI"), (2, u "TAU"), (2, u "DEGREES_TO_RADIANS"), (0, u "RADIANS_TO_DEGREES")] 94

def k3m0 : Method := { name := "<init>", desc := "()V", sig := { parameters := [], returnType := none }, accessFlags := 2, code := none }
def k3c1 : Code := { maxStack := 4, maxLocals := 4, code := jdk_29_method_66_code, exceptionTable := #[], attributes := #[] }
def k3m1 : Method := { name := "max", desc := "(JJ)J", sig := { parameters := [.long, .long], returnType := some .long }, accessFlags := 9, code := some k3c1 }
def k3c2 : Code := { maxStack := 4, maxLocals := 4, code := jdk_29_method_68_code, exceptionTable := #[], attributes := #[] }
def k3m2 : Method := { name := "max", desc := "(DD)D", sig := { parameters := [.double, .double], returnType := some .double }, accessFlags := 9, code := some k3c2 }
/-- java/lang/Math -/
def k3 : Class := { plain "java/lang/Math" (some 0) with
  accessFlags := 49
  interfaces := #[]
  cf := some (fileOf pool3 1 #[.nestMembers #[98]] #[{ accessFlags := 2, nameIndex := 7, descriptorIndex := 8, attributes := #[] }, { accessFlags := 9, nameIndex := 198, descriptorIndex := 121, attributes := #[] }, { accessFlags := 9, nameIndex := 198, descriptorIndex := 52, attributes := #[] }] 49 4 #[] #[{ accessFlags := 25, nameIndex := 354, descriptorIndex := 339, attributes := #[] }, { accessFlags := 25, nameIndex := 358, descriptorIndex := 339, attributes := #[] }, { accessFlags := 25, nameIndex := 361, descriptorIndex := 339, attributes := #[] }, { accessFlags := 26, nameIndex := 364, descriptorIndex := 339, attributes := #[] }, { accessFlags := 26, nameIndex := 365, descriptorIndex := 339, attributes := #[] }, { accessFlags := 26, nameIndex := 172, descriptorIndex := 173, attributes := #[] }, { accessFlags := 26, nameIndex := 176, descriptorIndex := 173, attributes := #[] }, { accessFlags := 8, nameIndex := 344, descriptorIndex := 339, attributes := #[] }, { accessFlags := 8, nameIndex := 338, descriptorIndex := 339, attributes := #[] }, { accessFlags := 4120, nameIndex := 245, descriptorIndex := 246, attributes := #[] }])
  fields := #[{ name := "E", type := .double, accessFlags := 25, slot := 0, constantValue := 0 }, { name := "PI", type := .double, accessFlags := 25, slot := 1, constantValue := 0 }, { name := "TAU", type := .double, accessFlags := 25, slot := 2, constantValue := 0 }, { name := "DEGREES_TO_RADIANS", type := .double, accessFlags := 26, slot := 3, constantValue := 0 }, { name := "RADIANS_TO_DEGREES", type := .double, accessFlags := 26, slot := 4, constantValue := 0 }, { name := "negativeZeroFloatBits", type := .long, accessFlags := 26, slot := 5, constantValue := 0 }, { name := "negativeZeroDoubleBits", type := .long, accessFlags := 26, slot := 6, constantValue := 0 }, { name := "twoToTheDoubleScaleUp", type := .double, accessFlags := 8, slot := 7, constantValue := 0 }, { name := "twoToTheDoubleScaleDown", type := .double, accessFlags := 8, slot := 8, constantValue := 0 }, { name := "$assertionsDisabled", type := .boolean, accessFlags := 4120, slot := 9, constantValue := 0 }]
  methods := #[k3m0, k3m1, k3m2]
  instanceTypes := #[]
  staticTypes := #[.double, .double, .double, .double, .double, .long, .long, .double, .double, .boolean]
  resolved := Array.replicate 460 none
  statics := none }

def pool4 : Array CpInfo := pool [(1, u "java/lang/Cloneable"), (0, .class_ 1), (0, u "java/lang/Object"), (0, .class_ 3)] 3

/-- java/lang/Cloneable -/
def k4 : Class := { plain "java/lang/Cloneable" (some 0) with
  accessFlags := 1537
  interfaces := #[]
  cf := some (fileOf pool4 2 #[] #[] 1537 4 #[] #[])
  fields := #[]
  methods := #[]
  instanceTypes := #[]
  staticTypes := #[]
  resolved := Array.replicate 8 none
  statics := none }

def pool5 : Array CpInfo := pool [(1, u "java/io/Serializable"), (0, .class_ 1), (0, u "java/lang/Object"), (0, .class_ 3)] 3

/-- java/io/Serializable -/
def k5 : Class := { plain "java/io/Serializable" (some 0) with
  accessFlags := 1537
  interfaces := #[]
  cf := some (fileOf pool5 2 #[] #[] 1537 4 #[] #[])
  fields := #[]
  methods := #[]
  instanceTypes := #[]
  staticTypes := #[]
  resolved := Array.replicate 8 none
  statics := none }

/-- the primitive byte -/
def k6 : Class := { plain "byte" none with kind := .primitive 'B', accessFlags := 0x411 }
/-- [B -/
def k7 : Class := { plain "[B" (some 0) with kind := .array 6 .byte, interfaces := #[4, 5], accessFlags := 1041 }

/-- the primitive double -/
def k8 : Class := { plain "double" none with kind := .primitive 'D', accessFlags := 0x411 }
/-- [D -/
def k9 : Class := { plain "[D" (some 0) with kind := .array 8 .double, interfaces := #[4, 5], accessFlags := 1041 }

/-- the primitive int -/
def k10 : Class := { plain "int" none with kind := .primitive 'I', accessFlags := 0x411 }
/-- [I -/
def k11 : Class := { plain "[I" (some 0) with kind := .array 10 .int, interfaces := #[4, 5], accessFlags := 1041 }

def heap : Heap := #[]
def classes : Array Class := #[k0, k1, k2, k3, k4, k5, k6, k7, k8, k9, k10, k11]
def interned : List (Array UInt16 × Addr) := []
def slotsUsed : Nat := 0
def theMethod : MethodId := ⟨1, 1⟩
def args0 : Array Value := #[.int 5, .int 5, .int 5, .int 5, .int 5, .int 5]
def aboutOver (below : List Frame) : State where
  vm := { classes := classes, interned := interned.toArray }
  heap := heap
  slotsUsed := slotsUsed
  threads := #[{ frames := .invoking theMethod args0 :: below }]
def below0 : List Frame := [.native { method := ⟨0, 0⟩, args := #[] }]
def about1 : State := aboutOver below0
def p0 : Program := .bare "" "" ""
def e0 : Env := launch0.env 0 0 0
theorem w_frames : about1.frames = Frame.invoking theMethod args0 :: below0 := rfl
set_option maxRecDepth 65536 in
theorem w_args : argsFit about1.vm theMethod args0 = true := by decide +kernel
set_option maxRecDepth 65536 in
theorem w_heap : heapFits about1 = true := by decide +kernel
set_option maxRecDepth 65536 in
theorem w_runnable : about1.curStatus? = some .runnable := by decide +kernel
set_option maxRecDepth 65536 in
theorem w_alone : about1.alone = true := by decide +kernel
set_option maxRecDepth 65536 in
theorem w_named : about1.methodNamed? x = some theMethod := by decide +kernel
set_option maxRecDepth 65536 in
theorem w_hears : about1.hears theMethod below0 = true := by decide +kernel
set_option maxRecDepth 65536 in
theorem w_ripe : about1.ripe theMethod args0 below0 = true := by decide +kernel
theorem w_running : about1.status = .running := rfl
set_option maxRecDepth 65536 in
theorem w_room : about1.hasRoom e0.platform room_1 = true :=
  launch0.hasRoom_least _ room_1 (by decide +kernel) (by decide +kernel) (by decide +kernel) (by decide +kernel) (by decide +kernel) (by decide +kernel)
theorem allAtoms_all (ts : List Jvm.Cond) (a : Array Jvm.Value) (st : Jvm.State) : (allAtoms ts).before a st = ts.all (fun c => c.before a st) := by
  induction ts with
  | nil => rfl
  | cons c t ih =>
    show (Jvm.Cond.and c (allAtoms t)).before a st = _
    rw [Jvm.Cond.before_and, ih, List.all_cons]
def words1 : List Jvm.Cond := Jvm.Cond.code x code maxLocals ret :: tables_1
/-- a 'code' word, met by the world's own term for the bytes: nothing is compared byte by byte -/
theorem code_word {y : MethodName} {bytes : ByteArray} {mx : Nat} {rt : Option FieldType} {a : Array Value} {s : State} {m : MethodId} {meth : Method} {c : Code} (h1 : s.methodNamed? y = some m) (h2 : s.vm.method? m = some meth) (h3 : meth.code = some c) (h4 : c.code = bytes)
    (h5 : (c.maxLocals == mx && c.exceptionTable.isEmpty && decide (c.maxStack ≤ mostOperands) && decide (meth.sig.returnType = rt) && !meth.locks && decide (parseMethodDescriptor y.desc = some meth.sig)) = true) : (Jvm.Cond.code y bytes mx rt).before a s = true := by
  simp only [Bool.and_eq_true, beq_iff_eq, Bool.not_eq_true', decide_eq_true_eq] at h5
  obtain ⟨⟨⟨⟨⟨g1, g2⟩, g3⟩, g4⟩, g5⟩, g6⟩ := h5
  simp [Cond.before, Cond.holds, Cond.value, h1, h2, h3, h4, g1, g2, g3, g4, g5, g6]
def isCode : Jvm.Cond → Bool
  | .code _ _ _ _ => true
  | _ => false
theorem all_split {L : List Jvm.Cond} {P : Jvm.Cond → Bool} (h1 : L.all (fun c => isCode c || P c) = true) (h2 : ∀ c ∈ L.filter isCode, P c = true) : L.all P = true := by
  refine List.all_eq_true.mpr fun c hc => ?_
  have h := List.all_eq_true.mp h1 c hc
  rcases Bool.eq_false_or_eq_true (isCode c) with hi | hi
  · exact h2 c (List.mem_filter.mpr ⟨hc, hi⟩)
  · simpa [hi] using h
set_option maxRecDepth 65536 in
theorem w_c0 : (Jvm.Cond.code x code maxLocals ret).before args0 about1 = true := code_word (m := ⟨1, 1⟩) (meth := k1m1) (c := k1c1) (by decide +kernel) rfl rfl rfl (by decide +kernel)
set_option maxRecDepth 65536 in
theorem w_c1 : (Jvm.Cond.code ({ cls := "com/example/arbor_center/arborcenter/objective/UpperEnvelope", name := "<init>", desc := "(I)V" } : Jvm.MethodName) prog_12_method_1_code (2 : Nat) (Option.none : Option Jvm.ClassFile.FieldType)).before args0 about1 = true := code_word (m := ⟨2, 0⟩) (meth := k2m0) (c := k2c0) (by decide +kernel) rfl rfl rfl (by decide +kernel)
set_option maxRecDepth 65536 in
theorem w_c2 : (Jvm.Cond.code ({ cls := "java/lang/Object", name := "<init>", desc := "()V" } : Jvm.MethodName) object_method_1_code (1 : Nat) (Option.none : Option Jvm.ClassFile.FieldType)).before args0 about1 = true := code_word (m := ⟨0, 0⟩) (meth := k0m0) (c := k0c0) (by decide +kernel) rfl rfl rfl (by decide +kernel)
set_option maxRecDepth 65536 in
theorem w_c3 : (Jvm.Cond.code ({ cls := "com/example/arbor_center/arborcenter/objective/UpperEnvelope", name := "reset", desc := "([DI)V" } : Jvm.MethodName) prog_12_method_2_code (4 : Nat) (Option.none : Option Jvm.ClassFile.FieldType)).before args0 about1 = true := code_word (m := ⟨2, 1⟩) (meth := k2m1) (c := k2c1) (by decide +kernel) rfl rfl rfl (by decide +kernel)
set_option maxRecDepth 65536 in
theorem w_c4 : (Jvm.Cond.code ({ cls := "com/example/arbor_center/arborcenter/objective/UpperEnvelopeAddPinLaw", name := "w", desc := "(I)J" } : Jvm.MethodName) method_3_code (1 : Nat) (Option.some Jvm.ClassFile.FieldType.long)).before args0 about1 = true := code_word (m := ⟨1, 2⟩) (meth := k1m2) (c := k1c2) (by decide +kernel) rfl rfl rfl (by decide +kernel)
set_option maxRecDepth 65536 in
theorem w_c5 : (Jvm.Cond.code ({ cls := "com/example/arbor_center/arborcenter/objective/UpperEnvelopeAddPinLaw", name := "d", desc := "(I)J" } : Jvm.MethodName) method_4_code (1 : Nat) (Option.some Jvm.ClassFile.FieldType.long)).before args0 about1 = true := code_word (m := ⟨1, 3⟩) (meth := k1m3) (c := k1c3) (by decide +kernel) rfl rfl rfl (by decide +kernel)
set_option maxRecDepth 65536 in
theorem w_c6 : (Jvm.Cond.code ({ cls := "com/example/arbor_center/arborcenter/objective/UpperEnvelope", name := "add", desc := "(DD)V" } : Jvm.MethodName) prog_12_method_3_code (18 : Nat) (Option.none : Option Jvm.ClassFile.FieldType)).before args0 about1 = true := code_word (m := ⟨2, 2⟩) (meth := k2m2) (c := k2c2) (by decide +kernel) rfl rfl rfl (by decide +kernel)
set_option maxRecDepth 65536 in
theorem w_c7 : (Jvm.Cond.code ({ cls := "com/example/arbor_center/arborcenter/objective/UpperEnvelopeAddPinLaw", name := "check", desc := "(Lcom/example/arbor_center/arborcenter/objective/UpperEnvelope;IJIIII)Z" } : Jvm.MethodName) method_7_code (8 : Nat) (Option.some Jvm.ClassFile.FieldType.boolean)).before args0 about1 = true := code_word (m := ⟨1, 6⟩) (meth := k1m6) (c := k1c6) (by decide +kernel) rfl rfl rfl (by decide +kernel)
set_option maxRecDepth 65536 in
theorem w_c8 : (Jvm.Cond.code ({ cls := "com/example/arbor_center/arborcenter/objective/UpperEnvelope", name := "at", desc := "(I)D" } : Jvm.MethodName) prog_12_method_4_code (10 : Nat) (Option.some Jvm.ClassFile.FieldType.double)).before args0 about1 = true := code_word (m := ⟨2, 3⟩) (meth := k2m3) (c := k2c3) (by decide +kernel) rfl rfl rfl (by decide +kernel)
set_option maxRecDepth 65536 in
theorem w_c9 : (Jvm.Cond.code ({ cls := "java/lang/Math", name := "max", desc := "(DD)D" } : Jvm.MethodName) jdk_29_method_68_code (4 : Nat) (Option.some Jvm.ClassFile.FieldType.double)).before args0 about1 = true := code_word (m := ⟨3, 2⟩) (meth := k3m2) (c := k3c2) (by decide +kernel) rfl rfl rfl (by decide +kernel)
set_option maxRecDepth 65536 in
theorem w_c10 : (Jvm.Cond.code ({ cls := "com/example/arbor_center/arborcenter/objective/UpperEnvelopeAddPinLaw", name := "best", desc := "(JIIII)J" } : Jvm.MethodName) method_6_code (8 : Nat) (Option.some Jvm.ClassFile.FieldType.long)).before args0 about1 = true := code_word (m := ⟨1, 5⟩) (meth := k1m5) (c := k1c5) (by decide +kernel) rfl rfl rfl (by decide +kernel)
set_option maxRecDepth 65536 in
theorem w_c11 : (Jvm.Cond.code ({ cls := "com/example/arbor_center/arborcenter/objective/UpperEnvelopeAddPinLaw", name := "value", desc := "(JI)J" } : Jvm.MethodName) method_5_code (3 : Nat) (Option.some Jvm.ClassFile.FieldType.long)).before args0 about1 = true := code_word (m := ⟨1, 4⟩) (meth := k1m4) (c := k1c4) (by decide +kernel) rfl rfl rfl (by decide +kernel)
set_option maxRecDepth 65536 in
theorem w_c12 : (Jvm.Cond.code ({ cls := "java/lang/Math", name := "max", desc := "(JJ)J" } : Jvm.MethodName) jdk_29_method_66_code (4 : Nat) (Option.some Jvm.ClassFile.FieldType.long)).before args0 about1 = true := code_word (m := ⟨3, 1⟩) (meth := k3m1) (c := k3c1) (by decide +kernel) rfl rfl rfl (by decide +kernel)
def codes1 : List Jvm.Cond := [Jvm.Cond.code x code maxLocals ret, Jvm.Cond.code ({ cls := "com/example/arbor_center/arborcenter/objective/UpperEnvelope", name := "<init>", desc := "(I)V" } : Jvm.MethodName) prog_12_method_1_code (2 : Nat) (Option.none : Option Jvm.ClassFile.FieldType), Jvm.Cond.code ({ cls := "java/lang/Object", name := "<init>", desc := "()V" } : Jvm.MethodName) object_method_1_code (1 : Nat) (Option.none : Option Jvm.ClassFile.FieldType), Jvm.Cond.code ({ cls := "com/example/arbor_center/arborcenter/objective/UpperEnvelope", name := "reset", desc := "([DI)V" } : Jvm.MethodName) prog_12_method_2_code (4 : Nat) (Option.none : Option Jvm.ClassFile.FieldType), Jvm.Cond.code ({ cls := "com/example/arbor_center/arborcenter/objective/UpperEnvelopeAddPinLaw", name := "w", desc := "(I)J" } : Jvm.MethodName) method_3_code (1 : Nat) (Option.some Jvm.ClassFile.FieldType.long), Jvm.Cond.code ({ cls := "com/example/arbor_center/arborcenter/objective/UpperEnvelopeAddPinLaw", name := "d", desc := "(I)J" } : Jvm.MethodName) method_4_code (1 : Nat) (Option.some Jvm.ClassFile.FieldType.long), Jvm.Cond.code ({ cls := "com/example/arbor_center/arborcenter/objective/UpperEnvelope", name := "add", desc := "(DD)V" } : Jvm.MethodName) prog_12_method_3_code (18 : Nat) (Option.none : Option Jvm.ClassFile.FieldType), Jvm.Cond.code ({ cls := "com/example/arbor_center/arborcenter/objective/UpperEnvelopeAddPinLaw", name := "check", desc := "(Lcom/example/arbor_center/arborcenter/objective/UpperEnvelope;IJIIII)Z" } : Jvm.MethodName) method_7_code (8 : Nat) (Option.some Jvm.ClassFile.FieldType.boolean), Jvm.Cond.code ({ cls := "com/example/arbor_center/arborcenter/objective/UpperEnvelope", name := "at", desc := "(I)D" } : Jvm.MethodName) prog_12_method_4_code (10 : Nat) (Option.some Jvm.ClassFile.FieldType.double), Jvm.Cond.code ({ cls := "java/lang/Math", name := "max", desc := "(DD)D" } : Jvm.MethodName) jdk_29_method_68_code (4 : Nat) (Option.some Jvm.ClassFile.FieldType.double), Jvm.Cond.code ({ cls := "com/example/arbor_center/arborcenter/objective/UpperEnvelopeAddPinLaw", name := "best", desc := "(JIIII)J" } : Jvm.MethodName) method_6_code (8 : Nat) (Option.some Jvm.ClassFile.FieldType.long), Jvm.Cond.code ({ cls := "com/example/arbor_center/arborcenter/objective/UpperEnvelopeAddPinLaw", name := "value", desc := "(JI)J" } : Jvm.MethodName) method_5_code (3 : Nat) (Option.some Jvm.ClassFile.FieldType.long), Jvm.Cond.code ({ cls := "java/lang/Math", name := "max", desc := "(JJ)J" } : Jvm.MethodName) jdk_29_method_66_code (4 : Nat) (Option.some Jvm.ClassFile.FieldType.long)]
set_option maxRecDepth 65536 in
theorem codes_eq : words1.filter isCode = codes1 := rfl
theorem w_codes : ∀ c ∈ words1.filter isCode, c.before args0 about1 = true := by
  rw [codes_eq]
  intro c hc
  simp only [codes1, List.mem_cons, List.not_mem_nil, or_false] at hc
  rcases hc with rfl | rfl | rfl | rfl | rfl | rfl | rfl | rfl | rfl | rfl | rfl | rfl | rfl
  · exact w_c0
  · exact w_c1
  · exact w_c2
  · exact w_c3
  · exact w_c4
  · exact w_c5
  · exact w_c6
  · exact w_c7
  · exact w_c8
  · exact w_c9
  · exact w_c10
  · exact w_c11
  · exact w_c12
set_option maxRecDepth 65536 in
theorem w_t1 : (words1.take 24).all (fun c => isCode c || c.before args0 about1) = true := by decide +kernel
set_option maxRecDepth 65536 in
theorem w_t2 : ((words1.drop 24).take 24).all (fun c => isCode c || c.before args0 about1) = true := by decide +kernel
set_option maxRecDepth 65536 in
theorem w_t3 : ((words1.drop 24).drop 24).all (fun c => isCode c || c.before args0 about1) = true := by decide +kernel
theorem w_tables : (allAtoms (Jvm.Cond.code x code maxLocals ret :: tables_1)).before args0 about1 = true := by
  rw [allAtoms_all]
  show words1.all (fun c => c.before args0 about1) = true
  refine all_split ?_ w_codes
  rw [← List.take_append_drop 24 words1, List.all_append, w_t1, ← List.take_append_drop 24 (words1.drop 24), List.all_append, w_t2, w_t3]
  rfl
set_option maxRecDepth 65536 in
theorem w_case : (Jvm.Cond.and given_1 narrow_1).before args0 about1 = true := by decide +kernel
theorem w_applies : (headSpec (Jvm.Cond.code x code maxLocals ret :: tables_1) room_1).applies x e0.platform about1 = true :=
  (Spec.applies_iff w_frames).mpr ⟨w_running, w_runnable, w_alone, w_named, w_hears, w_ripe, w_room, w_tables⟩
set_option maxRecDepth 200000 in
theorem atStart : AtStart classFile x code maxLocals ret World_1 tables_1 room_1 Calls_1 rest_1 Pre_1 launch0 p0 e0 about1 theMethod args0 below0 :=
  ⟨lists_1, trivial, launch0.admits_env _ _ _, launch0.least_env, fairChoices_fair.cas, fairChoices_fair.clock, w_frames, w_args, w_heap, w_applies, trivial, trivial, w_case⟩
end start1
theorem witness_1 : WitnessClaimed_1 := ⟨start1.p0, start1.e0, start1.about1, start1.theMethod, start1.args0, start1.below0, start1.atStart⟩
end Jvm.Pilot.@@N@@
