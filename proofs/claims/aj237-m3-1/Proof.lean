import JvmDerived
import JvmDerived.Pilot.@@N@@Statement
import JvmDerived.Pilot.@@N@@Code
set_option linter.unusedVariables false
set_option linter.unusedSimpArgs false

namespace Jvm.Pilot.@@N@@
open Jvm Jvm.ClassFile Sem Op Lib Jvm.Free Jvm.Stand Jvm.LawKit Jvm.RoadKit Bundle Jvm.Pilot.@@N@@.Jvm.D
section Kit
variable {p : Program} {l : Launch} {e : Env} {R : Room} {s : State} {m : MethodId} {args : Array Value} {below : List Frame} {meth : Method} {c : Code} {T : State} {locs : List Loc} {cells slots : Nat} {Z : State} {a0 : Array Value} {bc : ByteArray} {ml : Nat} {own nm : String} {rt : Option FieldType} {Q : Option Value → Heap → List Loc → Prop} {kC kS pc pc' : Nat} {Ls : Array Slot} {S : List Value} {h : Heap}
def Dec (b : ByteArray) (pc : Nat) (i : Instr) (n pc' : Nat) : Prop := decode b pc = .ok (i, n) ∧ pc' = pc + n
def DecJ (b : ByteArray) (pc : Nat) (i : Instr) (o : Int) (tgt nxt : Nat) : Prop := decode b pc = .ok (i, 3) ∧ 0 ≤ (pc : Int) + o ∧ ((pc : Int) + o).toNat = tgt ∧ nxt = pc + 3
def Cur (p : Program) (l : Launch) (e : Env) (s : State) (m : MethodId) (meth : Method) (c : Code) (Z : State) (bc : ByteArray) (ml : Nat) (own nm : String) (rt : Option FieldType) : Prop :=
  p.tables.exec = Jvm.exec ∧ Z.Warmed39 s.vm ∧ c.code = bc ∧ c.maxLocals = ml ∧ s.vm.findClass own = some m.cls ∧ meth.sig.returnType = rt ∧ meth.locks = false ∧ meth.name = nm
def Go (p : Program) (e : Env) (below : List Frame) (s : State) (Q : Option Value → Heap → List Loc → Prop) (kC kS : Nat) (T : State) (f : JFrame) : Prop :=
  ∃ s₂ o, Steps p.tables e below (T.setTop f) s₂ ∧ s₂.status = .running ∧ Ended s₂ below o ∧ ∃ v L, o = .returned v ∧ Q v s₂.heap L ∧ FrameEnd s o s₂ L kC kS
theorem Go.step {T T' : State} {f f' : JFrame} (st : ∀ t, Steps p.tables e below (T'.setTop f') t → Steps p.tables e below (T.setTop f) t) (g : Go p e below s Q kC kS T' f') : Go p e below s Q kC kS T f := by
  obtain ⟨s₂, o, h1, r⟩ := g; exact ⟨s₂, o, st _ h1, r⟩
theorem Go.cast {f f' : JFrame} (q : f = f') (g : Go p e below s Q kC kS T f') : Go p e below s Q kC kS T f := q ▸ g
theorem met_of {y : MethodName} {rm : Room} {as' : Array Value} {h0 : Heap} {ws : List Jvm.Cond} {bytes : ByteArray} {maxL : Nat} {ret : Option FieldType} (hpl : plainFor y = true)
    (body : ∀ {p : Program} {e : Env} {s : State} {m : MethodId} {below : List Frame} {meth : Method} {c : Code} {T : State}, Cur p l e s m meth c Z bytes maxL y.cls y.name ret → Stand p l e rm s m as' below meth c T [] 0 0 → T.heap = h0 → Go p e below s Q rm.cells rm.slots T (entryFrame m as' maxL)) :
    MetFree l y (head1 (Jvm.Cond.code y bytes maxL ret :: ws) rm) (fun a U => a = as' ∧ Z.Warmed39 U.vm ∧ U.heap = h0) (fun _ _ _ _ _ => True) (fun _ U o U' => ∃ v L, o = .returned v ∧ Q v U'.heap L ∧ FrameEnd U o U' L rm.cells rm.slots) := by
  refine MetFree.of_bodySF hpl hisR ?_
  intro p e s m args below meth c s₁ Bd hml0 hP hK
  obtain ⟨rfl, hZ, hh⟩ := hP
  exact body ⟨Bd.exec, hZ, Bd.bytes, hml0, findClass_of_methodNamed Bd.named, Bd.returns, Bd.notSynchronized, (name_of_methodNamed Bd.named Bd.method).1⟩ (Stand.of_body Bd) (by rw [← hh, Bd.state]; rfl)
theorem wiloadN (C : Cur p l e s m meth c Z bc ml own nm rt) (X : Stand p l e R s m args below meth c T locs cells slots) {k : Fin 4} {v : Int32} (hd : Dec bc pc (.iload_n k) 1 pc') (hl : Ls[k.val]? = some (.val (.int v))) (g : Go p e below s Q kC kS T (mkF m pc' Ls (.int v :: S))) : Go p e below s Q kC kS T (mkF m pc Ls S) :=
  Go.step (fun _ k => XS.iloadN X.here C.1 rfl (hb C.2.2.1 hd.1) hl k) (by rw [hd.2] at g; exact g)
theorem wiload (C : Cur p l e s m meth c Z bc ml own nm rt) (X : Stand p l e R s m args below meth c T locs cells slots) {k : Nat} {v : Int32} (hd : Dec bc pc (.iload k) 2 pc') (hl : Ls[k]? = some (.val (.int v))) (g : Go p e below s Q kC kS T (mkF m pc' Ls (.int v :: S))) : Go p e below s Q kC kS T (mkF m pc Ls S) :=
  Go.step (fun _ k => XS.iload X.here C.1 rfl (hb C.2.2.1 hd.1) hl k) (by rw [hd.2] at g; exact g)
theorem wistoreN (C : Cur p l e s m meth c Z bc ml own nm rt) (X : Stand p l e R s m args below meth c T locs cells slots) {k : Fin 4} {v : Int32} (hd : Dec bc pc (.istore_n k) 1 pc') (l' : Array Slot) (hl : storeLocals Ls k.val (.int v) = some l') (g : Go p e below s Q kC kS T (mkF m pc' l' S)) : Go p e below s Q kC kS T (mkF m pc Ls (.int v :: S)) :=
  Go.step (fun _ k => XS.istoreN X.here C.1 rfl (hb C.2.2.1 hd.1) rfl hl k) (by rw [hd.2] at g; exact g)
theorem wistore (C : Cur p l e s m meth c Z bc ml own nm rt) (X : Stand p l e R s m args below meth c T locs cells slots) {k : Nat} {v : Int32} (hd : Dec bc pc (.istore k) 2 pc') (l' : Array Slot) (hl : storeLocals Ls k (.int v) = some l') (g : Go p e below s Q kC kS T (mkF m pc' l' S)) : Go p e below s Q kC kS T (mkF m pc Ls (.int v :: S)) :=
  Go.step (fun _ k => XS.istore X.here C.1 rfl (hb C.2.2.1 hd.1) rfl hl k) (by rw [hd.2] at g; exact g)
theorem wlloadN (C : Cur p l e s m meth c Z bc ml own nm rt) (X : Stand p l e R s m args below meth c T locs cells slots) {k : Fin 4} {v : Int64} (hd : Dec bc pc (.lload_n k) 1 pc') (hl : Ls[k.val]? = some (.val (.long v))) (g : Go p e below s Q kC kS T (mkF m pc' Ls (.long v :: S))) : Go p e below s Q kC kS T (mkF m pc Ls S) :=
  Go.step (fun _ k => XS.lloadN X.here C.1 rfl (hb C.2.2.1 hd.1) hl k) (by rw [hd.2] at g; exact g)
theorem wlload (C : Cur p l e s m meth c Z bc ml own nm rt) (X : Stand p l e R s m args below meth c T locs cells slots) {k : Nat} {v : Int64} (hd : Dec bc pc (.lload k) 2 pc') (hl : Ls[k]? = some (.val (.long v))) (g : Go p e below s Q kC kS T (mkF m pc' Ls (.long v :: S))) : Go p e below s Q kC kS T (mkF m pc Ls S) :=
  Go.step (fun _ k => XS.lload X.here C.1 rfl (hb C.2.2.1 hd.1) hl k) (by rw [hd.2] at g; exact g)
theorem wlstoreN (C : Cur p l e s m meth c Z bc ml own nm rt) (X : Stand p l e R s m args below meth c T locs cells slots) {k : Fin 4} {v : Int64} (hd : Dec bc pc (.lstore_n k) 1 pc') (l' : Array Slot) (hl : storeLocals Ls k.val (.long v) = some l') (g : Go p e below s Q kC kS T (mkF m pc' l' S)) : Go p e below s Q kC kS T (mkF m pc Ls (.long v :: S)) :=
  Go.step (fun _ k => XS.lstoreN X.here C.1 rfl (hb C.2.2.1 hd.1) rfl hl k) (by rw [hd.2] at g; exact g)
theorem wlstore (C : Cur p l e s m meth c Z bc ml own nm rt) (X : Stand p l e R s m args below meth c T locs cells slots) {k : Nat} {v : Int64} (hd : Dec bc pc (.lstore k) 2 pc') (l' : Array Slot) (hl : storeLocals Ls k (.long v) = some l') (g : Go p e below s Q kC kS T (mkF m pc' l' S)) : Go p e below s Q kC kS T (mkF m pc Ls (.long v :: S)) :=
  Go.step (fun _ k => XS.lstore X.here C.1 rfl (hb C.2.2.1 hd.1) rfl hl k) (by rw [hd.2] at g; exact g)
theorem wdloadN (C : Cur p l e s m meth c Z bc ml own nm rt) (X : Stand p l e R s m args below meth c T locs cells slots) {k : Fin 4} {v : UInt64} (hd : Dec bc pc (.dload_n k) 1 pc') (hl : Ls[k.val]? = some (.val (.double v))) (g : Go p e below s Q kC kS T (mkF m pc' Ls (.double v :: S))) : Go p e below s Q kC kS T (mkF m pc Ls S) :=
  Go.step (fun _ k => XS.dloadN X.here C.1 rfl (hb C.2.2.1 hd.1) hl k) (by rw [hd.2] at g; exact g)
theorem wdload (C : Cur p l e s m meth c Z bc ml own nm rt) (X : Stand p l e R s m args below meth c T locs cells slots) {k : Nat} {v : UInt64} (hd : Dec bc pc (.dload k) 2 pc') (hl : Ls[k]? = some (.val (.double v))) (g : Go p e below s Q kC kS T (mkF m pc' Ls (.double v :: S))) : Go p e below s Q kC kS T (mkF m pc Ls S) :=
  Go.step (fun _ k => XS.dload X.here C.1 rfl (hb C.2.2.1 hd.1) hl k) (by rw [hd.2] at g; exact g)
theorem wdstoreN (C : Cur p l e s m meth c Z bc ml own nm rt) (X : Stand p l e R s m args below meth c T locs cells slots) {k : Fin 4} {v : UInt64} (hd : Dec bc pc (.dstore_n k) 1 pc') (l' : Array Slot) (hl : storeLocals Ls k.val (.double v) = some l') (g : Go p e below s Q kC kS T (mkF m pc' l' S)) : Go p e below s Q kC kS T (mkF m pc Ls (.double v :: S)) :=
  Go.step (fun _ k => XS.dstoreN X.here C.1 rfl (hb C.2.2.1 hd.1) rfl hl k) (by rw [hd.2] at g; exact g)
theorem wdstore (C : Cur p l e s m meth c Z bc ml own nm rt) (X : Stand p l e R s m args below meth c T locs cells slots) {k : Nat} {v : UInt64} (hd : Dec bc pc (.dstore k) 2 pc') (l' : Array Slot) (hl : storeLocals Ls k (.double v) = some l') (g : Go p e below s Q kC kS T (mkF m pc' l' S)) : Go p e below s Q kC kS T (mkF m pc Ls (.double v :: S)) :=
  Go.step (fun _ k => XS.dstore X.here C.1 rfl (hb C.2.2.1 hd.1) rfl hl k) (by rw [hd.2] at g; exact g)
theorem waloadN (C : Cur p l e s m meth c Z bc ml own nm rt) (X : Stand p l e R s m args below meth c T locs cells slots) {k : Fin 4} {v : Value} (hd : Dec bc pc (.aload_n k) 1 pc') (hl : Ls[k.val]? = some (.val v)) (hv : v.isRef = true) (g : Go p e below s Q kC kS T (mkF m pc' Ls (v :: S))) : Go p e below s Q kC kS T (mkF m pc Ls S) :=
  Go.step (fun _ k => XS.aloadN X.here C.1 rfl (hb C.2.2.1 hd.1) hl hv k) (by rw [hd.2] at g; exact g)
theorem waload (C : Cur p l e s m meth c Z bc ml own nm rt) (X : Stand p l e R s m args below meth c T locs cells slots) {k : Nat} {v : Value} (hd : Dec bc pc (.aload k) 2 pc') (hl : Ls[k]? = some (.val v)) (hv : v.isRef = true) (g : Go p e below s Q kC kS T (mkF m pc' Ls (v :: S))) : Go p e below s Q kC kS T (mkF m pc Ls S) :=
  Go.step (fun _ k => XS.aload X.here C.1 rfl (hb C.2.2.1 hd.1) hl hv k) (by rw [hd.2] at g; exact g)
theorem wastoreN (C : Cur p l e s m meth c Z bc ml own nm rt) (X : Stand p l e R s m args below meth c T locs cells slots) {k : Fin 4} {v : Value} (hd : Dec bc pc (.astore_n k) 1 pc') (l' : Array Slot) (hv : v.isRef = true) (hl : storeLocals Ls k.val v = some l') (g : Go p e below s Q kC kS T (mkF m pc' l' S)) : Go p e below s Q kC kS T (mkF m pc Ls (v :: S)) :=
  Go.step (fun _ k => XS.astoreN X.here C.1 rfl (hb C.2.2.1 hd.1) rfl hv hl k) (by rw [hd.2] at g; exact g)
theorem wastore (C : Cur p l e s m meth c Z bc ml own nm rt) (X : Stand p l e R s m args below meth c T locs cells slots) {k : Nat} {v : Value} (hd : Dec bc pc (.astore k) 2 pc') (l' : Array Slot) (hv : v.isRef = true) (hl : storeLocals Ls k v = some l') (g : Go p e below s Q kC kS T (mkF m pc' l' S)) : Go p e below s Q kC kS T (mkF m pc Ls (v :: S)) :=
  Go.step (fun _ k => XS.astore X.here C.1 rfl (hb C.2.2.1 hd.1) rfl hv hl k) (by rw [hd.2] at g; exact g)
theorem wiconst (C : Cur p l e s m meth c Z bc ml own nm rt) (X : Stand p l e R s m args below meth c T locs cells slots) {i : Int} (hd : Dec bc pc (.iconst i) 1 pc') (z : Int32) (hz : Int32.ofInt i = z) (g : Go p e below s Q kC kS T (mkF m pc' Ls (.int z :: S))) : Go p e below s Q kC kS T (mkF m pc Ls S) :=
  Go.step (fun _ k => XS.iconst X.here C.1 rfl (hb C.2.2.1 hd.1) (by rw [hz]; exact k)) (by rw [hd.2] at g; exact g)
theorem wbipush (C : Cur p l e s m meth c Z bc ml own nm rt) (X : Stand p l e R s m args below meth c T locs cells slots) {i : Int} (hd : Dec bc pc (.bipush i) 2 pc') (z : Int32) (hz : (Int8.ofInt i).toInt32 = z) (g : Go p e below s Q kC kS T (mkF m pc' Ls (.int z :: S))) : Go p e below s Q kC kS T (mkF m pc Ls S) :=
  Go.step (fun _ k => XS.bipush X.here C.1 rfl (hb C.2.2.1 hd.1) (by rw [hz]; exact k)) (by rw [hd.2] at g; exact g)
theorem wsipush (C : Cur p l e s m meth c Z bc ml own nm rt) (X : Stand p l e R s m args below meth c T locs cells slots) {i : Int} (hd : Dec bc pc (.sipush i) 3 pc') (z : Int32) (hz : (Int16.ofInt i).toInt32 = z) (g : Go p e below s Q kC kS T (mkF m pc' Ls (.int z :: S))) : Go p e below s Q kC kS T (mkF m pc Ls S) :=
  Go.step (fun _ k => XS.sipush X.here C.1 rfl (hb C.2.2.1 hd.1) (by rw [hz]; exact k)) (by rw [hd.2] at g; exact g)
theorem wlconst0 (C : Cur p l e s m meth c Z bc ml own nm rt) (X : Stand p l e R s m args below meth c T locs cells slots) (hd : Dec bc pc (.lconst 0) 1 pc') (g : Go p e below s Q kC kS T (mkF m pc' Ls (.long 0 :: S))) : Go p e below s Q kC kS T (mkF m pc Ls S) :=
  Go.step (fun _ k => XS.lconst X.here C.1 rfl (hb C.2.2.1 hd.1) k) (by rw [hd.2] at g; exact g)
theorem wlconst1 (C : Cur p l e s m meth c Z bc ml own nm rt) (X : Stand p l e R s m args below meth c T locs cells slots) (hd : Dec bc pc (.lconst 1) 1 pc') (g : Go p e below s Q kC kS T (mkF m pc' Ls (.long 1 :: S))) : Go p e below s Q kC kS T (mkF m pc Ls S) :=
  Go.step (fun _ k => XS.lconst X.here C.1 rfl (hb C.2.2.1 hd.1) k) (by rw [hd.2] at g; exact g)
theorem wdconst0 (C : Cur p l e s m meth c Z bc ml own nm rt) (X : Stand p l e R s m args below meth c T locs cells slots) (hd : Dec bc pc (.dconst 0) 1 pc') (g : Go p e below s Q kC kS T (mkF m pc' Ls (.double FP.dconst0 :: S))) : Go p e below s Q kC kS T (mkF m pc Ls S) :=
  Go.step (fun _ k => XS.dconst0 X.here C.1 rfl (hb C.2.2.1 hd.1) rfl k) (by rw [hd.2] at g; exact g)
theorem wdconst1 (C : Cur p l e s m meth c Z bc ml own nm rt) (X : Stand p l e R s m args below meth c T locs cells slots) (hd : Dec bc pc (.dconst 1) 1 pc') (g : Go p e below s Q kC kS T (mkF m pc' Ls (.double FP.dconst1 :: S))) : Go p e below s Q kC kS T (mkF m pc Ls S) :=
  Go.step (fun _ k => XS.dconst1 X.here C.1 rfl (hb C.2.2.1 hd.1) rfl k) (by rw [hd.2] at g; exact g)
theorem wnull (C : Cur p l e s m meth c Z bc ml own nm rt) (X : Stand p l e R s m args below meth c T locs cells slots) (hd : Dec bc pc (.aconst_null) 1 pc') (g : Go p e below s Q kC kS T (mkF m pc' Ls (.null :: S))) : Go p e below s Q kC kS T (mkF m pc Ls S) :=
  Go.step (fun _ k => XS.aconstNull X.here C.1 rfl (hb C.2.2.1 hd.1) k) (by rw [hd.2] at g; exact g)
theorem wiadd (C : Cur p l e s m meth c Z bc ml own nm rt) (X : Stand p l e R s m args below meth c T locs cells slots) {x y : Int32} (hd : Dec bc pc (.iadd) 1 pc') (g : Go p e below s Q kC kS T (mkF m pc' Ls (.int (x + y) :: S))) : Go p e below s Q kC kS T (mkF m pc Ls (.int y :: .int x :: S)) :=
  Go.step (fun _ k => XS.iadd X.here C.1 rfl (hb C.2.2.1 hd.1) rfl k) (by rw [hd.2] at g; exact g)
theorem wisub (C : Cur p l e s m meth c Z bc ml own nm rt) (X : Stand p l e R s m args below meth c T locs cells slots) {x y : Int32} (hd : Dec bc pc (.isub) 1 pc') (g : Go p e below s Q kC kS T (mkF m pc' Ls (.int (x - y) :: S))) : Go p e below s Q kC kS T (mkF m pc Ls (.int y :: .int x :: S)) :=
  Go.step (fun _ k => XS.isub X.here C.1 rfl (hb C.2.2.1 hd.1) rfl k) (by rw [hd.2] at g; exact g)
theorem wimul (C : Cur p l e s m meth c Z bc ml own nm rt) (X : Stand p l e R s m args below meth c T locs cells slots) {x y : Int32} (hd : Dec bc pc (.imul) 1 pc') (g : Go p e below s Q kC kS T (mkF m pc' Ls (.int (x * y) :: S))) : Go p e below s Q kC kS T (mkF m pc Ls (.int y :: .int x :: S)) :=
  Go.step (fun _ k => XS.imul X.here C.1 rfl (hb C.2.2.1 hd.1) rfl k) (by rw [hd.2] at g; exact g)
theorem wiand (C : Cur p l e s m meth c Z bc ml own nm rt) (X : Stand p l e R s m args below meth c T locs cells slots) {x y : Int32} (hd : Dec bc pc (.iand) 1 pc') (g : Go p e below s Q kC kS T (mkF m pc' Ls (.int (x &&& y) :: S))) : Go p e below s Q kC kS T (mkF m pc Ls (.int y :: .int x :: S)) :=
  Go.step (fun _ k => XS.iand X.here C.1 rfl (hb C.2.2.1 hd.1) rfl k) (by rw [hd.2] at g; exact g)
theorem wior (C : Cur p l e s m meth c Z bc ml own nm rt) (X : Stand p l e R s m args below meth c T locs cells slots) {x y : Int32} (hd : Dec bc pc (.ior) 1 pc') (g : Go p e below s Q kC kS T (mkF m pc' Ls (.int (x ||| y) :: S))) : Go p e below s Q kC kS T (mkF m pc Ls (.int y :: .int x :: S)) :=
  Go.step (fun _ k => XS.ior X.here C.1 rfl (hb C.2.2.1 hd.1) rfl k) (by rw [hd.2] at g; exact g)
theorem wixor (C : Cur p l e s m meth c Z bc ml own nm rt) (X : Stand p l e R s m args below meth c T locs cells slots) {x y : Int32} (hd : Dec bc pc (.ixor) 1 pc') (g : Go p e below s Q kC kS T (mkF m pc' Ls (.int (x ^^^ y) :: S))) : Go p e below s Q kC kS T (mkF m pc Ls (.int y :: .int x :: S)) :=
  Go.step (fun _ k => XS.ixor X.here C.1 rfl (hb C.2.2.1 hd.1) rfl k) (by rw [hd.2] at g; exact g)
theorem wishl (C : Cur p l e s m meth c Z bc ml own nm rt) (X : Stand p l e R s m args below meth c T locs cells slots) {x y : Int32} (hd : Dec bc pc (.ishl) 1 pc') (g : Go p e below s Q kC kS T (mkF m pc' Ls (.int (x <<< (y &&& 31)) :: S))) : Go p e below s Q kC kS T (mkF m pc Ls (.int y :: .int x :: S)) :=
  Go.step (fun _ k => XS.ishl X.here C.1 rfl (hb C.2.2.1 hd.1) rfl k) (by rw [hd.2] at g; exact g)
theorem wishr (C : Cur p l e s m meth c Z bc ml own nm rt) (X : Stand p l e R s m args below meth c T locs cells slots) {x y : Int32} (hd : Dec bc pc (.ishr) 1 pc') (g : Go p e below s Q kC kS T (mkF m pc' Ls (.int (x >>> (y &&& 31)) :: S))) : Go p e below s Q kC kS T (mkF m pc Ls (.int y :: .int x :: S)) :=
  Go.step (fun _ k => XS.ishr X.here C.1 rfl (hb C.2.2.1 hd.1) rfl k) (by rw [hd.2] at g; exact g)
theorem wiushr (C : Cur p l e s m meth c Z bc ml own nm rt) (X : Stand p l e R s m args below meth c T locs cells slots) {x y : Int32} (hd : Dec bc pc (.iushr) 1 pc') (g : Go p e below s Q kC kS T (mkF m pc' Ls (.int ((x.toUInt32 >>> (y &&& 31).toUInt32).toInt32) :: S))) : Go p e below s Q kC kS T (mkF m pc Ls (.int y :: .int x :: S)) :=
  Go.step (fun _ k => XS.iushr X.here C.1 rfl (hb C.2.2.1 hd.1) rfl k) (by rw [hd.2] at g; exact g)
theorem wladd (C : Cur p l e s m meth c Z bc ml own nm rt) (X : Stand p l e R s m args below meth c T locs cells slots) {x y : Int64} (hd : Dec bc pc (.ladd) 1 pc') (g : Go p e below s Q kC kS T (mkF m pc' Ls (.long (x + y) :: S))) : Go p e below s Q kC kS T (mkF m pc Ls (.long y :: .long x :: S)) :=
  Go.step (fun _ k => XS.ladd X.here C.1 rfl (hb C.2.2.1 hd.1) rfl k) (by rw [hd.2] at g; exact g)
theorem wlsub (C : Cur p l e s m meth c Z bc ml own nm rt) (X : Stand p l e R s m args below meth c T locs cells slots) {x y : Int64} (hd : Dec bc pc (.lsub) 1 pc') (g : Go p e below s Q kC kS T (mkF m pc' Ls (.long (x - y) :: S))) : Go p e below s Q kC kS T (mkF m pc Ls (.long y :: .long x :: S)) :=
  Go.step (fun _ k => XS.lsub X.here C.1 rfl (hb C.2.2.1 hd.1) rfl k) (by rw [hd.2] at g; exact g)
theorem wlmul (C : Cur p l e s m meth c Z bc ml own nm rt) (X : Stand p l e R s m args below meth c T locs cells slots) {x y : Int64} (hd : Dec bc pc (.lmul) 1 pc') (g : Go p e below s Q kC kS T (mkF m pc' Ls (.long (x * y) :: S))) : Go p e below s Q kC kS T (mkF m pc Ls (.long y :: .long x :: S)) :=
  Go.step (fun _ k => XS.lmul X.here C.1 rfl (hb C.2.2.1 hd.1) rfl k) (by rw [hd.2] at g; exact g)
theorem wland (C : Cur p l e s m meth c Z bc ml own nm rt) (X : Stand p l e R s m args below meth c T locs cells slots) {x y : Int64} (hd : Dec bc pc (.land) 1 pc') (g : Go p e below s Q kC kS T (mkF m pc' Ls (.long (x &&& y) :: S))) : Go p e below s Q kC kS T (mkF m pc Ls (.long y :: .long x :: S)) :=
  Go.step (fun _ k => XS.land X.here C.1 rfl (hb C.2.2.1 hd.1) rfl k) (by rw [hd.2] at g; exact g)
theorem wlor (C : Cur p l e s m meth c Z bc ml own nm rt) (X : Stand p l e R s m args below meth c T locs cells slots) {x y : Int64} (hd : Dec bc pc (.lor) 1 pc') (g : Go p e below s Q kC kS T (mkF m pc' Ls (.long (x ||| y) :: S))) : Go p e below s Q kC kS T (mkF m pc Ls (.long y :: .long x :: S)) :=
  Go.step (fun _ k => XS.lor X.here C.1 rfl (hb C.2.2.1 hd.1) rfl k) (by rw [hd.2] at g; exact g)
theorem wlxor (C : Cur p l e s m meth c Z bc ml own nm rt) (X : Stand p l e R s m args below meth c T locs cells slots) {x y : Int64} (hd : Dec bc pc (.lxor) 1 pc') (g : Go p e below s Q kC kS T (mkF m pc' Ls (.long (x ^^^ y) :: S))) : Go p e below s Q kC kS T (mkF m pc Ls (.long y :: .long x :: S)) :=
  Go.step (fun _ k => XS.lxor X.here C.1 rfl (hb C.2.2.1 hd.1) rfl k) (by rw [hd.2] at g; exact g)
theorem wlshl (C : Cur p l e s m meth c Z bc ml own nm rt) (X : Stand p l e R s m args below meth c T locs cells slots) {x : Int64} {y : Int32} (hd : Dec bc pc (.lshl) 1 pc') (g : Go p e below s Q kC kS T (mkF m pc' Ls (.long (x <<< (y &&& 0x3f).toInt64) :: S))) : Go p e below s Q kC kS T (mkF m pc Ls (.int y :: .long x :: S)) :=
  Go.step (fun _ k => XS.lshl X.here C.1 rfl (hb C.2.2.1 hd.1) rfl k) (by rw [hd.2] at g; exact g)
theorem wlshr (C : Cur p l e s m meth c Z bc ml own nm rt) (X : Stand p l e R s m args below meth c T locs cells slots) {x : Int64} {y : Int32} (hd : Dec bc pc (.lshr) 1 pc') (g : Go p e below s Q kC kS T (mkF m pc' Ls (.long (x >>> (y &&& 0x3f).toInt64) :: S))) : Go p e below s Q kC kS T (mkF m pc Ls (.int y :: .long x :: S)) :=
  Go.step (fun _ k => XS.lshr X.here C.1 rfl (hb C.2.2.1 hd.1) rfl k) (by rw [hd.2] at g; exact g)
theorem wlushr (C : Cur p l e s m meth c Z bc ml own nm rt) (X : Stand p l e R s m args below meth c T locs cells slots) {x : Int64} {y : Int32} (hd : Dec bc pc (.lushr) 1 pc') (g : Go p e below s Q kC kS T (mkF m pc' Ls (.long ((x.toUInt64 >>> (y &&& 0x3f).toInt64.toUInt64).toInt64) :: S))) : Go p e below s Q kC kS T (mkF m pc Ls (.int y :: .long x :: S)) :=
  Go.step (fun _ k => XS.lushr X.here C.1 rfl (hb C.2.2.1 hd.1) rfl k) (by rw [hd.2] at g; exact g)
theorem widiv (C : Cur p l e s m meth c Z bc ml own nm rt) (X : Stand p l e R s m args below meth c T locs cells slots) {x y : Int32} (hd : Dec bc pc (.idiv) 1 pc') (hy : y ≠ 0) (g : Go p e below s Q kC kS T (mkF m pc' Ls (.int (x / y) :: S))) : Go p e below s Q kC kS T (mkF m pc Ls (.int y :: .int x :: S)) :=
  Go.step (fun _ k => XS.idiv X.here C.1 rfl (hb C.2.2.1 hd.1) rfl hy k) (by rw [hd.2] at g; exact g)
theorem wirem (C : Cur p l e s m meth c Z bc ml own nm rt) (X : Stand p l e R s m args below meth c T locs cells slots) {x y : Int32} (hd : Dec bc pc (.irem) 1 pc') (hy : y ≠ 0) (g : Go p e below s Q kC kS T (mkF m pc' Ls (.int (x % y) :: S))) : Go p e below s Q kC kS T (mkF m pc Ls (.int y :: .int x :: S)) :=
  Go.step (fun _ k => iremM X C.1 rfl (hb C.2.2.1 hd.1) rfl hy k) (by rw [hd.2] at g; exact g)
theorem wldiv (C : Cur p l e s m meth c Z bc ml own nm rt) (X : Stand p l e R s m args below meth c T locs cells slots) {x y : Int64} (hd : Dec bc pc (.ldiv) 1 pc') (hy : y ≠ 0) (g : Go p e below s Q kC kS T (mkF m pc' Ls (.long (x / y) :: S))) : Go p e below s Q kC kS T (mkF m pc Ls (.long y :: .long x :: S)) :=
  Go.step (fun _ k => XS.ldiv X.here C.1 rfl (hb C.2.2.1 hd.1) rfl hy k) (by rw [hd.2] at g; exact g)
theorem wineg (C : Cur p l e s m meth c Z bc ml own nm rt) (X : Stand p l e R s m args below meth c T locs cells slots) {x : Int32} (hd : Dec bc pc (.ineg) 1 pc') (g : Go p e below s Q kC kS T (mkF m pc' Ls (.int (-x) :: S))) : Go p e below s Q kC kS T (mkF m pc Ls (.int x :: S)) :=
  Go.step (fun _ k => XS.ineg X.here C.1 rfl (hb C.2.2.1 hd.1) rfl k) (by rw [hd.2] at g; exact g)
theorem wi2l (C : Cur p l e s m meth c Z bc ml own nm rt) (X : Stand p l e R s m args below meth c T locs cells slots) {x : Int32} (hd : Dec bc pc (.i2l) 1 pc') (g : Go p e below s Q kC kS T (mkF m pc' Ls (.long (x.toInt64) :: S))) : Go p e below s Q kC kS T (mkF m pc Ls (.int x :: S)) :=
  Go.step (fun _ k => XS.i2l X.here C.1 rfl (hb C.2.2.1 hd.1) rfl k) (by rw [hd.2] at g; exact g)
theorem wl2i (C : Cur p l e s m meth c Z bc ml own nm rt) (X : Stand p l e R s m args below meth c T locs cells slots) {x : Int64} (hd : Dec bc pc (.l2i) 1 pc') (g : Go p e below s Q kC kS T (mkF m pc' Ls (.int (x.toInt32) :: S))) : Go p e below s Q kC kS T (mkF m pc Ls (.long x :: S)) :=
  Go.step (fun _ k => XS.l2i X.here C.1 rfl (hb C.2.2.1 hd.1) rfl k) (by rw [hd.2] at g; exact g)
theorem wi2b (C : Cur p l e s m meth c Z bc ml own nm rt) (X : Stand p l e R s m args below meth c T locs cells slots) {x : Int32} (hd : Dec bc pc (.i2b) 1 pc') (g : Go p e below s Q kC kS T (mkF m pc' Ls (.int (x.toInt8.toInt32) :: S))) : Go p e below s Q kC kS T (mkF m pc Ls (.int x :: S)) :=
  Go.step (fun _ k => XS.i2b X.here C.1 rfl (hb C.2.2.1 hd.1) rfl k) (by rw [hd.2] at g; exact g)
theorem wi2s (C : Cur p l e s m meth c Z bc ml own nm rt) (X : Stand p l e R s m args below meth c T locs cells slots) {x : Int32} (hd : Dec bc pc (.i2s) 1 pc') (g : Go p e below s Q kC kS T (mkF m pc' Ls (.int (x.toInt16.toInt32) :: S))) : Go p e below s Q kC kS T (mkF m pc Ls (.int x :: S)) :=
  Go.step (fun _ k => XS.i2s X.here C.1 rfl (hb C.2.2.1 hd.1) rfl k) (by rw [hd.2] at g; exact g)
theorem wi2c (C : Cur p l e s m meth c Z bc ml own nm rt) (X : Stand p l e R s m args below meth c T locs cells slots) {x : Int32} (hd : Dec bc pc (.i2c) 1 pc') (g : Go p e below s Q kC kS T (mkF m pc' Ls (.int (x.toUInt32.toUInt16.toUInt32.toInt32) :: S))) : Go p e below s Q kC kS T (mkF m pc Ls (.int x :: S)) :=
  Go.step (fun _ k => XS.i2c X.here C.1 rfl (hb C.2.2.1 hd.1) rfl k) (by rw [hd.2] at g; exact g)
theorem wlneg (C : Cur p l e s m meth c Z bc ml own nm rt) (X : Stand p l e R s m args below meth c T locs cells slots) {x : Int64} (hd : Dec bc pc (.lneg) 1 pc') (g : Go p e below s Q kC kS T (mkF m pc' Ls (.long (-x) :: S))) : Go p e below s Q kC kS T (mkF m pc Ls (.long x :: S)) :=
  Go.step (fun _ k => XS.lneg X.here C.1 rfl (hb C.2.2.1 hd.1) rfl k) (by rw [hd.2] at g; exact g)
theorem wi2d (C : Cur p l e s m meth c Z bc ml own nm rt) (X : Stand p l e R s m args below meth c T locs cells slots) {x : Int32} (hd : Dec bc pc (.i2d) 1 pc') (g : Go p e below s Q kC kS T (mkF m pc' Ls (.double (FP.i2d x) :: S))) : Go p e below s Q kC kS T (mkF m pc Ls (.int x :: S)) :=
  Go.step (fun _ k => XS.i2dS X.here C.1 rfl (hb C.2.2.1 hd.1) rfl rfl k) (by rw [hd.2] at g; exact g)
theorem wl2d (C : Cur p l e s m meth c Z bc ml own nm rt) (X : Stand p l e R s m args below meth c T locs cells slots) {x : Int64} (hd : Dec bc pc (.l2d) 1 pc') (g : Go p e below s Q kC kS T (mkF m pc' Ls (.double (FP.l2d x) :: S))) : Go p e below s Q kC kS T (mkF m pc Ls (.long x :: S)) :=
  Go.step (fun _ k => XS.l2dS X.here C.1 rfl (hb C.2.2.1 hd.1) rfl rfl k) (by rw [hd.2] at g; exact g)
theorem wd2i (C : Cur p l e s m meth c Z bc ml own nm rt) (X : Stand p l e R s m args below meth c T locs cells slots) {x : UInt64} (hd : Dec bc pc (.d2i) 1 pc') (g : Go p e below s Q kC kS T (mkF m pc' Ls (.int (FP.d2i x) :: S))) : Go p e below s Q kC kS T (mkF m pc Ls (.double x :: S)) :=
  Go.step (fun _ k => XS.d2iS X.here C.1 rfl (hb C.2.2.1 hd.1) rfl rfl k) (by rw [hd.2] at g; exact g)
theorem wd2l (C : Cur p l e s m meth c Z bc ml own nm rt) (X : Stand p l e R s m args below meth c T locs cells slots) {x : UInt64} (hd : Dec bc pc (.d2l) 1 pc') (g : Go p e below s Q kC kS T (mkF m pc' Ls (.long (FP.d2l x) :: S))) : Go p e below s Q kC kS T (mkF m pc Ls (.double x :: S)) :=
  Go.step (fun _ k => XS.d2lS X.here C.1 rfl (hb C.2.2.1 hd.1) rfl rfl k) (by rw [hd.2] at g; exact g)
theorem wdneg (C : Cur p l e s m meth c Z bc ml own nm rt) (X : Stand p l e R s m args below meth c T locs cells slots) {x : UInt64} (hd : Dec bc pc (.dneg) 1 pc') (g : Go p e below s Q kC kS T (mkF m pc' Ls (.double (FP.dneg x) :: S))) : Go p e below s Q kC kS T (mkF m pc Ls (.double x :: S)) :=
  Go.step (fun _ k => XS.dnegS X.here C.1 rfl (hb C.2.2.1 hd.1) rfl rfl k) (by rw [hd.2] at g; exact g)
theorem wdadd (C : Cur p l e s m meth c Z bc ml own nm rt) (X : Stand p l e R s m args below meth c T locs cells slots) {x y : UInt64} (hd : Dec bc pc (.dadd) 1 pc') {v : UInt64} (hv : FP.dadd x y = v) (hn : Jvm.Free.Fl.NoNaN64 v) (g : Go p e below s Q kC kS T (mkF m pc' Ls (.double v :: S))) : Go p e below s Q kC kS T (mkF m pc Ls (.double y :: .double x :: S)) :=
  Go.step (fun _ k => XS.daddS X.here C.1 rfl (hb C.2.2.1 hd.1) rfl (by rw [hv]; exact hn) hv k) (by rw [hd.2] at g; exact g)
theorem wdsub (C : Cur p l e s m meth c Z bc ml own nm rt) (X : Stand p l e R s m args below meth c T locs cells slots) {x y : UInt64} (hd : Dec bc pc (.dsub) 1 pc') {v : UInt64} (hv : FP.dsub x y = v) (hn : Jvm.Free.Fl.NoNaN64 v) (g : Go p e below s Q kC kS T (mkF m pc' Ls (.double v :: S))) : Go p e below s Q kC kS T (mkF m pc Ls (.double y :: .double x :: S)) :=
  Go.step (fun _ k => XS.dsubS X.here C.1 rfl (hb C.2.2.1 hd.1) rfl (by rw [hv]; exact hn) hv k) (by rw [hd.2] at g; exact g)
theorem wdmul (C : Cur p l e s m meth c Z bc ml own nm rt) (X : Stand p l e R s m args below meth c T locs cells slots) {x y : UInt64} (hd : Dec bc pc (.dmul) 1 pc') {v : UInt64} (hv : FP.dmul x y = v) (hn : Jvm.Free.Fl.NoNaN64 v) (g : Go p e below s Q kC kS T (mkF m pc' Ls (.double v :: S))) : Go p e below s Q kC kS T (mkF m pc Ls (.double y :: .double x :: S)) :=
  Go.step (fun _ k => XS.dmulS X.here C.1 rfl (hb C.2.2.1 hd.1) rfl (by rw [hv]; exact hn) hv k) (by rw [hd.2] at g; exact g)
theorem wddiv (C : Cur p l e s m meth c Z bc ml own nm rt) (X : Stand p l e R s m args below meth c T locs cells slots) {x y : UInt64} (hd : Dec bc pc (.ddiv) 1 pc') {v : UInt64} (hv : FP.ddiv x y = v) (hn : Jvm.Free.Fl.NoNaN64 v) (g : Go p e below s Q kC kS T (mkF m pc' Ls (.double v :: S))) : Go p e below s Q kC kS T (mkF m pc Ls (.double y :: .double x :: S)) :=
  Go.step (fun _ k => XS.ddivS X.here C.1 rfl (hb C.2.2.1 hd.1) rfl (by rw [hv]; exact hn) hv k) (by rw [hd.2] at g; exact g)
theorem wdcmp (C : Cur p l e s m meth c Z bc ml own nm rt) (X : Stand p l e R s m args below meth c T locs cells slots) {o : CmpOp} {x y : UInt64} (hd : Dec bc pc (.dcmp o) 1 pc') {v : Int32} (hv : cmpValue (FP.dcmp x y) o = v) (g : Go p e below s Q kC kS T (mkF m pc' Ls (.int v :: S))) : Go p e below s Q kC kS T (mkF m pc Ls (.double y :: .double x :: S)) :=
  Go.step (fun _ k => XS.dcmpS X.here C.1 rfl (hb C.2.2.1 hd.1) rfl hv k) (by rw [hd.2] at g; exact g)
theorem wlcmp (C : Cur p l e s m meth c Z bc ml own nm rt) (X : Stand p l e R s m args below meth c T locs cells slots) {x y : Int64} (hd : Dec bc pc (.lcmp) 1 pc') (g : Go p e below s Q kC kS T (mkF m pc' Ls (.int (lcmpW x y) :: S))) : Go p e below s Q kC kS T (mkF m pc Ls (.long y :: .long x :: S)) :=
  Go.step (fun _ k => XS.lcmp X.here C.1 rfl (hb C.2.2.1 hd.1) rfl k) (by rw [hd.2] at g; exact g)
theorem wdup (C : Cur p l e s m meth c Z bc ml own nm rt) (X : Stand p l e R s m args below meth c T locs cells slots) {v : Value} (hd : Dec bc pc (.dup) 1 pc') (hc : v.category = 1) (g : Go p e below s Q kC kS T (mkF m pc' Ls (v :: v :: S))) : Go p e below s Q kC kS T (mkF m pc Ls (v :: S)) :=
  Go.step (fun _ k => XS.dup X.here C.1 rfl (hb C.2.2.1 hd.1) rfl hc k) (by rw [hd.2] at g; exact g)
theorem wdupX1 (C : Cur p l e s m meth c Z bc ml own nm rt) (X : Stand p l e R s m args below meth c T locs cells slots) {v u : Value} (hd : Dec bc pc (.dup_x1) 1 pc') (hc : v.category = 1) (hc' : u.category = 1) (g : Go p e below s Q kC kS T (mkF m pc' Ls (v :: u :: v :: S))) : Go p e below s Q kC kS T (mkF m pc Ls (v :: u :: S)) :=
  Go.step (fun _ k => XS.dupX1 X.here C.1 rfl (hb C.2.2.1 hd.1) rfl hc hc' k) (by rw [hd.2] at g; exact g)
theorem wdup2 (C : Cur p l e s m meth c Z bc ml own nm rt) (X : Stand p l e R s m args below meth c T locs cells slots) {v u : Value} (hd : Dec bc pc (.dup2) 1 pc') (hc : v.category = 1) (hc' : u.category = 1) (g : Go p e below s Q kC kS T (mkF m pc' Ls (v :: u :: v :: u :: S))) : Go p e below s Q kC kS T (mkF m pc Ls (v :: u :: S)) :=
  Go.step (fun _ k => Jvm.Free.XT.dup2 X.here C.1 rfl (hb C.2.2.1 hd.1) rfl hc hc' k) (by rw [hd.2] at g; exact g)
theorem wpop (C : Cur p l e s m meth c Z bc ml own nm rt) (X : Stand p l e R s m args below meth c T locs cells slots) {v : Value} (hd : Dec bc pc (.pop) 1 pc') (hc : v.category = 1) (g : Go p e below s Q kC kS T (mkF m pc' Ls S)) : Go p e below s Q kC kS T (mkF m pc Ls (v :: S)) :=
  Go.step (fun _ k => XS.pop X.here C.1 rfl (hb C.2.2.1 hd.1) rfl hc k) (by rw [hd.2] at g; exact g)
theorem wiinc (C : Cur p l e s m meth c Z bc ml own nm rt) (X : Stand p l e R s m args below meth c T locs cells slots) {k : Nat} {cst : Int} {x : Int32} (hd : Dec bc pc (.iinc k cst) 3 pc') (z : Int32) (hz : x + Int32.ofInt cst = z) (hl : Ls[k]? = some (.val (.int x))) (l' : Array Slot) (hl' : storeLocals Ls k (.int z) = some l') (g : Go p e below s Q kC kS T (mkF m pc' l' S)) : Go p e below s Q kC kS T (mkF m pc Ls S) :=
  Go.step (fun _ k => XS.iinc X.here C.1 rfl (hb C.2.2.1 hd.1) hl (by rw [hz]; exact hl') k) (by rw [hd.2] at g; exact g)
theorem wgoto (C : Cur p l e s m meth c Z bc ml own nm rt) (X : Stand p l e R s m args below meth c T locs cells slots) {o : Int} {tgt nxt : Nat} (hd : DecJ bc pc (.goto o) o tgt nxt) (g : Go p e below s Q kC kS T (mkF m tgt Ls S)) : Go p e below s Q kC kS T (mkF m pc Ls S) :=
  Go.step (fun _ k => XS.goto X.here C.1 rfl (pc0 := pc) (pc' := tgt) rfl (hb C.2.2.1 hd.1) hd.2.1 hd.2.2.1 k) g
theorem wicmp_lt (C : Cur p l e s m meth c Z bc ml own nm rt) (X : Stand p l e R s m args below meth c T locs cells slots) {x y : Int32} {o : Int} {tgt nxt : Nat} (hd : DecJ bc pc (.if_icmp .lt o) o tgt nxt) (hp : x < y → Go p e below s Q kC kS T (mkF m tgt Ls S)) (hn : ¬ x < y → Go p e below s Q kC kS T (mkF m nxt Ls S)) : Go p e below s Q kC kS T (mkF m pc Ls (.int y :: .int x :: S)) := by
  by_cases h : x < y
  · have g := hp h
    exact Go.step (fun _ k => XS.icmpYes X.here C.1 rfl (pc0 := pc) (pc' := tgt) rfl (hb C.2.2.1 hd.1) rfl (tlt h).1 hd.2.1 hd.2.2.1 k) g
  · have g := hn h
    rw [hd.2.2.2] at g; exact Go.step (fun _ k => XS.icmpNo X.here C.1 rfl (hb C.2.2.1 hd.1) rfl (flt h).1 k) g
theorem wif_lt (C : Cur p l e s m meth c Z bc ml own nm rt) (X : Stand p l e R s m args below meth c T locs cells slots) {x : Int32} {o : Int} {tgt nxt : Nat} (hd : DecJ bc pc (.ifCond .lt o) o tgt nxt) (hp : x < (0 : Int32) → Go p e below s Q kC kS T (mkF m tgt Ls S)) (hn : ¬ x < (0 : Int32) → Go p e below s Q kC kS T (mkF m nxt Ls S)) : Go p e below s Q kC kS T (mkF m pc Ls (.int x :: S)) := by
  by_cases h : x < (0 : Int32)
  · have g := hp h
    exact Go.step (fun _ k => XS.ifYes X.here C.1 rfl (pc0 := pc) (pc' := tgt) rfl (hb C.2.2.1 hd.1) rfl ((if0 _ _).trans (tlt h).1) hd.2.1 hd.2.2.1 k) g
  · have g := hn h
    rw [hd.2.2.2] at g; exact Go.step (fun _ k => XS.ifNo X.here C.1 rfl (hb C.2.2.1 hd.1) rfl ((if0 _ _).trans (flt h).1) k) g
theorem wicmp_ge (C : Cur p l e s m meth c Z bc ml own nm rt) (X : Stand p l e R s m args below meth c T locs cells slots) {x y : Int32} {o : Int} {tgt nxt : Nat} (hd : DecJ bc pc (.if_icmp .ge o) o tgt nxt) (hp : x < y → Go p e below s Q kC kS T (mkF m nxt Ls S)) (hn : ¬ x < y → Go p e below s Q kC kS T (mkF m tgt Ls S)) : Go p e below s Q kC kS T (mkF m pc Ls (.int y :: .int x :: S)) := by
  by_cases h : x < y
  · have g := hp h
    rw [hd.2.2.2] at g; exact Go.step (fun _ k => XS.icmpNo X.here C.1 rfl (hb C.2.2.1 hd.1) rfl (tlt h).2.1 k) g
  · have g := hn h
    exact Go.step (fun _ k => XS.icmpYes X.here C.1 rfl (pc0 := pc) (pc' := tgt) rfl (hb C.2.2.1 hd.1) rfl (flt h).2.1 hd.2.1 hd.2.2.1 k) g
theorem wif_ge (C : Cur p l e s m meth c Z bc ml own nm rt) (X : Stand p l e R s m args below meth c T locs cells slots) {x : Int32} {o : Int} {tgt nxt : Nat} (hd : DecJ bc pc (.ifCond .ge o) o tgt nxt) (hp : x < (0 : Int32) → Go p e below s Q kC kS T (mkF m nxt Ls S)) (hn : ¬ x < (0 : Int32) → Go p e below s Q kC kS T (mkF m tgt Ls S)) : Go p e below s Q kC kS T (mkF m pc Ls (.int x :: S)) := by
  by_cases h : x < (0 : Int32)
  · have g := hp h
    rw [hd.2.2.2] at g; exact Go.step (fun _ k => XS.ifNo X.here C.1 rfl (hb C.2.2.1 hd.1) rfl ((if0 _ _).trans (tlt h).2.1) k) g
  · have g := hn h
    exact Go.step (fun _ k => XS.ifYes X.here C.1 rfl (pc0 := pc) (pc' := tgt) rfl (hb C.2.2.1 hd.1) rfl ((if0 _ _).trans (flt h).2.1) hd.2.1 hd.2.2.1 k) g
theorem wicmp_gt (C : Cur p l e s m meth c Z bc ml own nm rt) (X : Stand p l e R s m args below meth c T locs cells slots) {x y : Int32} {o : Int} {tgt nxt : Nat} (hd : DecJ bc pc (.if_icmp .gt o) o tgt nxt) (hp : y < x → Go p e below s Q kC kS T (mkF m tgt Ls S)) (hn : ¬ y < x → Go p e below s Q kC kS T (mkF m nxt Ls S)) : Go p e below s Q kC kS T (mkF m pc Ls (.int y :: .int x :: S)) := by
  by_cases h : y < x
  · have g := hp h
    exact Go.step (fun _ k => XS.icmpYes X.here C.1 rfl (pc0 := pc) (pc' := tgt) rfl (hb C.2.2.1 hd.1) rfl (tlt h).2.2.1 hd.2.1 hd.2.2.1 k) g
  · have g := hn h
    rw [hd.2.2.2] at g; exact Go.step (fun _ k => XS.icmpNo X.here C.1 rfl (hb C.2.2.1 hd.1) rfl (flt h).2.2.1 k) g
theorem wif_gt (C : Cur p l e s m meth c Z bc ml own nm rt) (X : Stand p l e R s m args below meth c T locs cells slots) {x : Int32} {o : Int} {tgt nxt : Nat} (hd : DecJ bc pc (.ifCond .gt o) o tgt nxt) (hp : (0 : Int32) < x → Go p e below s Q kC kS T (mkF m tgt Ls S)) (hn : ¬ (0 : Int32) < x → Go p e below s Q kC kS T (mkF m nxt Ls S)) : Go p e below s Q kC kS T (mkF m pc Ls (.int x :: S)) := by
  by_cases h : (0 : Int32) < x
  · have g := hp h
    exact Go.step (fun _ k => XS.ifYes X.here C.1 rfl (pc0 := pc) (pc' := tgt) rfl (hb C.2.2.1 hd.1) rfl ((if0 _ _).trans (tlt h).2.2.1) hd.2.1 hd.2.2.1 k) g
  · have g := hn h
    rw [hd.2.2.2] at g; exact Go.step (fun _ k => XS.ifNo X.here C.1 rfl (hb C.2.2.1 hd.1) rfl ((if0 _ _).trans (flt h).2.2.1) k) g
theorem wicmp_le (C : Cur p l e s m meth c Z bc ml own nm rt) (X : Stand p l e R s m args below meth c T locs cells slots) {x y : Int32} {o : Int} {tgt nxt : Nat} (hd : DecJ bc pc (.if_icmp .le o) o tgt nxt) (hp : y < x → Go p e below s Q kC kS T (mkF m nxt Ls S)) (hn : ¬ y < x → Go p e below s Q kC kS T (mkF m tgt Ls S)) : Go p e below s Q kC kS T (mkF m pc Ls (.int y :: .int x :: S)) := by
  by_cases h : y < x
  · have g := hp h
    rw [hd.2.2.2] at g; exact Go.step (fun _ k => XS.icmpNo X.here C.1 rfl (hb C.2.2.1 hd.1) rfl (tlt h).2.2.2 k) g
  · have g := hn h
    exact Go.step (fun _ k => XS.icmpYes X.here C.1 rfl (pc0 := pc) (pc' := tgt) rfl (hb C.2.2.1 hd.1) rfl (flt h).2.2.2 hd.2.1 hd.2.2.1 k) g
theorem wif_le (C : Cur p l e s m meth c Z bc ml own nm rt) (X : Stand p l e R s m args below meth c T locs cells slots) {x : Int32} {o : Int} {tgt nxt : Nat} (hd : DecJ bc pc (.ifCond .le o) o tgt nxt) (hp : (0 : Int32) < x → Go p e below s Q kC kS T (mkF m nxt Ls S)) (hn : ¬ (0 : Int32) < x → Go p e below s Q kC kS T (mkF m tgt Ls S)) : Go p e below s Q kC kS T (mkF m pc Ls (.int x :: S)) := by
  by_cases h : (0 : Int32) < x
  · have g := hp h
    rw [hd.2.2.2] at g; exact Go.step (fun _ k => XS.ifNo X.here C.1 rfl (hb C.2.2.1 hd.1) rfl ((if0 _ _).trans (tlt h).2.2.2) k) g
  · have g := hn h
    exact Go.step (fun _ k => XS.ifYes X.here C.1 rfl (pc0 := pc) (pc' := tgt) rfl (hb C.2.2.1 hd.1) rfl ((if0 _ _).trans (flt h).2.2.2) hd.2.1 hd.2.2.1 k) g
theorem wicmp_eq (C : Cur p l e s m meth c Z bc ml own nm rt) (X : Stand p l e R s m args below meth c T locs cells slots) {x y : Int32} {o : Int} {tgt nxt : Nat} (hd : DecJ bc pc (.if_icmp .eq o) o tgt nxt) (hp : x = y → Go p e below s Q kC kS T (mkF m tgt Ls S)) (hn : ¬ x = y → Go p e below s Q kC kS T (mkF m nxt Ls S)) : Go p e below s Q kC kS T (mkF m pc Ls (.int y :: .int x :: S)) := by
  by_cases h : x = y
  · have g := hp h
    exact Go.step (fun _ k => XS.icmpYes X.here C.1 rfl (pc0 := pc) (pc' := tgt) rfl (hb C.2.2.1 hd.1) rfl (teq h).1 hd.2.1 hd.2.2.1 k) g
  · have g := hn h
    rw [hd.2.2.2] at g; exact Go.step (fun _ k => XS.icmpNo X.here C.1 rfl (hb C.2.2.1 hd.1) rfl (feq h).1 k) g
theorem wif_eq (C : Cur p l e s m meth c Z bc ml own nm rt) (X : Stand p l e R s m args below meth c T locs cells slots) {x : Int32} {o : Int} {tgt nxt : Nat} (hd : DecJ bc pc (.ifCond .eq o) o tgt nxt) (hp : x = (0 : Int32) → Go p e below s Q kC kS T (mkF m tgt Ls S)) (hn : ¬ x = (0 : Int32) → Go p e below s Q kC kS T (mkF m nxt Ls S)) : Go p e below s Q kC kS T (mkF m pc Ls (.int x :: S)) := by
  by_cases h : x = (0 : Int32)
  · have g := hp h
    exact Go.step (fun _ k => XS.ifYes X.here C.1 rfl (pc0 := pc) (pc' := tgt) rfl (hb C.2.2.1 hd.1) rfl ((if0 _ _).trans (teq h).1) hd.2.1 hd.2.2.1 k) g
  · have g := hn h
    rw [hd.2.2.2] at g; exact Go.step (fun _ k => XS.ifNo X.here C.1 rfl (hb C.2.2.1 hd.1) rfl ((if0 _ _).trans (feq h).1) k) g
theorem wicmp_ne (C : Cur p l e s m meth c Z bc ml own nm rt) (X : Stand p l e R s m args below meth c T locs cells slots) {x y : Int32} {o : Int} {tgt nxt : Nat} (hd : DecJ bc pc (.if_icmp .ne o) o tgt nxt) (hp : x = y → Go p e below s Q kC kS T (mkF m nxt Ls S)) (hn : ¬ x = y → Go p e below s Q kC kS T (mkF m tgt Ls S)) : Go p e below s Q kC kS T (mkF m pc Ls (.int y :: .int x :: S)) := by
  by_cases h : x = y
  · have g := hp h
    rw [hd.2.2.2] at g; exact Go.step (fun _ k => XS.icmpNo X.here C.1 rfl (hb C.2.2.1 hd.1) rfl (teq h).2 k) g
  · have g := hn h
    exact Go.step (fun _ k => XS.icmpYes X.here C.1 rfl (pc0 := pc) (pc' := tgt) rfl (hb C.2.2.1 hd.1) rfl (feq h).2 hd.2.1 hd.2.2.1 k) g
theorem wif_ne (C : Cur p l e s m meth c Z bc ml own nm rt) (X : Stand p l e R s m args below meth c T locs cells slots) {x : Int32} {o : Int} {tgt nxt : Nat} (hd : DecJ bc pc (.ifCond .ne o) o tgt nxt) (hp : x = (0 : Int32) → Go p e below s Q kC kS T (mkF m nxt Ls S)) (hn : ¬ x = (0 : Int32) → Go p e below s Q kC kS T (mkF m tgt Ls S)) : Go p e below s Q kC kS T (mkF m pc Ls (.int x :: S)) := by
  by_cases h : x = (0 : Int32)
  · have g := hp h
    rw [hd.2.2.2] at g; exact Go.step (fun _ k => XS.ifNo X.here C.1 rfl (hb C.2.2.1 hd.1) rfl ((if0 _ _).trans (teq h).2) k) g
  · have g := hn h
    exact Go.step (fun _ k => XS.ifYes X.here C.1 rfl (pc0 := pc) (pc' := tgt) rfl (hb C.2.2.1 hd.1) rfl ((if0 _ _).trans (feq h).2) hd.2.1 hd.2.2.1 k) g
theorem wacmp_eq (C : Cur p l e s m meth c Z bc ml own nm rt) (X : Stand p l e R s m args below meth c T locs cells slots) {x y : Value} (h1 : x.isRef = true) (h2 : y.isRef = true) {o : Int} {tgt nxt : Nat} (hd : DecJ bc pc (.if_acmp .eq o) o tgt nxt) (hp : x = y → Go p e below s Q kC kS T (mkF m tgt Ls S)) (hn : ¬ x = y → Go p e below s Q kC kS T (mkF m nxt Ls S)) : Go p e below s Q kC kS T (mkF m pc Ls (y :: x :: S)) := by
  by_cases h : x = y
  · have g := hp h
    exact Go.step (fun _ k => Jvm.RoadKit.acmp X C.1 rfl h1 h2 (pc0 := pc) (pc' := tgt) (same := true) rfl (hb C.2.2.1 hd.1) rfl (decide_eq_true h) hd.2.1 (by rw [hd.2.2.1]; rfl) k) g
  · have g := hn h
    exact Go.step (fun _ k => Jvm.RoadKit.acmp X C.1 rfl h1 h2 (pc0 := pc) (pc' := nxt) (same := false) rfl (hb C.2.2.1 hd.1) rfl (decide_eq_false h) hd.2.1 (by rw [hd.2.2.2]; rfl) k) g
theorem wacmp_ne (C : Cur p l e s m meth c Z bc ml own nm rt) (X : Stand p l e R s m args below meth c T locs cells slots) {x y : Value} (h1 : x.isRef = true) (h2 : y.isRef = true) {o : Int} {tgt nxt : Nat} (hd : DecJ bc pc (.if_acmp .ne o) o tgt nxt) (hp : x = y → Go p e below s Q kC kS T (mkF m nxt Ls S)) (hn : ¬ x = y → Go p e below s Q kC kS T (mkF m tgt Ls S)) : Go p e below s Q kC kS T (mkF m pc Ls (y :: x :: S)) := by
  by_cases h : x = y
  · have g := hp h
    exact Go.step (fun _ k => Jvm.RoadKit.acmp X C.1 rfl h1 h2 (pc0 := pc) (pc' := nxt) (same := true) rfl (hb C.2.2.1 hd.1) rfl (decide_eq_true h) hd.2.1 (by rw [hd.2.2.2]; rfl) k) g
  · have g := hn h
    exact Go.step (fun _ k => Jvm.RoadKit.acmp X C.1 rfl h1 h2 (pc0 := pc) (pc' := tgt) (same := false) rfl (hb C.2.2.1 hd.1) rfl (decide_eq_false h) hd.2.1 (by rw [hd.2.2.1]; rfl) k) g
theorem wifnullY (C : Cur p l e s m meth c Z bc ml own nm rt) (X : Stand p l e R s m args below meth c T locs cells slots) {b : Addr} {o : Int} {tgt nxt : Nat} (hd : DecJ bc pc (.ifnull o) o tgt nxt) (g : Go p e below s Q kC kS T (mkF m tgt Ls S)) : Go p e below s Q kC kS T (mkF m pc Ls (.null :: S)) :=
  Go.step (fun _ k => XS.ifnullYes X.here C.1 rfl (pc0 := pc) (pc' := tgt) rfl (hb C.2.2.1 hd.1) rfl hd.2.1 hd.2.2.1 k) g
theorem wifnullN (C : Cur p l e s m meth c Z bc ml own nm rt) (X : Stand p l e R s m args below meth c T locs cells slots) {b : Addr} {o : Int} {tgt nxt : Nat} (hd : DecJ bc pc (.ifnull o) o tgt nxt) (g : Go p e below s Q kC kS T (mkF m nxt Ls S)) : Go p e below s Q kC kS T (mkF m pc Ls (.ref b :: S)) := by
  rw [hd.2.2.2] at g
  exact Go.step (fun _ k => XS.ifnullNo X.here C.1 rfl (hb C.2.2.1 hd.1) rfl k) g
theorem wifnonnullY (C : Cur p l e s m meth c Z bc ml own nm rt) (X : Stand p l e R s m args below meth c T locs cells slots) {b : Addr} {o : Int} {tgt nxt : Nat} (hd : DecJ bc pc (.ifnonnull o) o tgt nxt) (g : Go p e below s Q kC kS T (mkF m tgt Ls S)) : Go p e below s Q kC kS T (mkF m pc Ls (.ref b :: S)) :=
  Go.step (fun _ k => XS.ifnonnullYes X.here C.1 rfl (pc0 := pc) (pc' := tgt) rfl (hb C.2.2.1 hd.1) rfl hd.2.1 hd.2.2.1 k) g
theorem wifnonnullN (C : Cur p l e s m meth c Z bc ml own nm rt) (X : Stand p l e R s m args below meth c T locs cells slots) {b : Addr} {o : Int} {tgt nxt : Nat} (hd : DecJ bc pc (.ifnonnull o) o tgt nxt) (g : Go p e below s Q kC kS T (mkF m nxt Ls S)) : Go p e below s Q kC kS T (mkF m pc Ls (.null :: S)) := by
  rw [hd.2.2.2] at g
  exact Go.step (fun _ k => XS.ifnonnullNo X.here C.1 rfl (hb C.2.2.1 hd.1) rfl k) g
theorem wret (C : Cur p l e s m meth c Z bc ml own nm rt) (X : Stand p l e R s m args below meth c T locs cells slots) (hd : Dec bc pc .return_ 1 pc') (hrt : rt = none) (hk : cells ≤ kC) (hn : slots ≤ kS) (q : Q none T.heap locs) : Go p e below s Q kC kS T (mkF m pc Ls []) := by
  subst hrt
  obtain ⟨fs, hr, hrun, hended, hW, hsame⟩ := X.leave (v := none) (fun _ => rfl) C.2.2.2.2.2.2.1
  exact ⟨_, _, X.returnOut C.1 C.2.2.2.2.2.1 (hb C.2.2.1 hd.1) hr, hrun, hended, none, _, rfl, q, ⟨_, rfl⟩, hW, hsame.mono hk hn⟩
theorem wretV (C : Cur p l e s m meth c Z bc ml own nm rt) (X : Stand p l e R s m args below meth c T locs cells slots) {w : Value} {t : FieldType} {i : Instr} (hd : Dec bc pc i 1 pc') (hrt : rt = some t) (hnw : narrow t w = w)
    (hi : (i = .ireturn ∧ (t = .int ∨ t = .boolean ∨ t = .byte ∨ t = .char ∨ t = .short) ∧ ∃ z, w = .int z) ∨ (i = .lreturn ∧ t = .long ∧ ∃ z, w = .long z) ∨ (i = .dreturn ∧ t = .double ∧ ∃ z, w = .double z) ∨ (i = .freturn ∧ t = .float ∧ ∃ z, w = .float z) ∨ (i = .areturn ∧ t.isReference = true ∧ w.isRef = true))
    (hk : cells ≤ kC) (hn : slots ≤ kS) (q : Q (some w) T.heap locs) : Go p e below s Q kC kS T (mkF m pc Ls (w :: S)) := by
  subst hrt
  obtain ⟨fs, hr, hrun, hended, hW, hsame⟩ := X.leave (v := some w) (fun h => by rw [C.2.2.2.2.2.1] at h; cases h) C.2.2.2.2.2.2.1
  exact ⟨_, _, retOut X C.1 C.2.2.2.2.2.1 hnw hi (hb C.2.2.1 hd.1) hr, hrun, hended, some w, _, rfl, q, ⟨_, rfl⟩, hW, hsame.mono hk hn⟩
theorem wiret (C : Cur p l e s m meth c Z bc ml own nm rt) (X : Stand p l e R s m args below meth c T locs cells slots) {z : Int32} (hd : Dec bc pc .ireturn 1 pc') (hrt : rt = some .int) (hk : cells ≤ kC) (hn : slots ≤ kS) (q : Q (some (.int z)) T.heap locs) : Go p e below s Q kC kS T (mkF m pc Ls (.int z :: S)) :=
  wretV C X hd hrt rfl (Or.inl ⟨rfl, Or.inl rfl, z, rfl⟩) hk hn q
theorem wiretN (C : Cur p l e s m meth c Z bc ml own nm rt) (X : Stand p l e R s m args below meth c T locs cells slots) {z : Int32} {t : FieldType} (ht : t = .boolean ∨ t = .byte ∨ t = .char ∨ t = .short) (hd : Dec bc pc .ireturn 1 pc') (hrt : rt = some t) (z' : Int32) (hz : nar t z = z') (hk : cells ≤ kC) (hn : slots ≤ kS) (q : Q (some (.int z')) T.heap locs) : Go p e below s Q kC kS T (mkF m pc Ls (.int z :: S)) := by
  subst hrt hz
  obtain ⟨fs, hr, hrun, hended, hW, hsame⟩ := X.leave (v := some (.int (nar t z))) (fun h => by rw [C.2.2.2.2.2.1] at h; cases h) C.2.2.2.2.2.2.1
  exact ⟨_, _, retN X C.1 (t := t) C.2.2.2.2.2.1 ht (hb C.2.2.1 hd.1) hr, hrun, hended, some _, _, rfl, q, ⟨_, rfl⟩, hW, hsame.mono hk hn⟩
theorem wlret (C : Cur p l e s m meth c Z bc ml own nm rt) (X : Stand p l e R s m args below meth c T locs cells slots) {z : Int64} (hd : Dec bc pc .lreturn 1 pc') (hrt : rt = some .long) (hk : cells ≤ kC) (hn : slots ≤ kS) (q : Q (some (.long z)) T.heap locs) : Go p e below s Q kC kS T (mkF m pc Ls (.long z :: S)) :=
  wretV C X hd hrt rfl (Or.inr (Or.inl ⟨rfl, rfl, z, rfl⟩)) hk hn q
theorem wdret (C : Cur p l e s m meth c Z bc ml own nm rt) (X : Stand p l e R s m args below meth c T locs cells slots) {z : UInt64} (hd : Dec bc pc .dreturn 1 pc') (hrt : rt = some .double) (hk : cells ≤ kC) (hn : slots ≤ kS) (q : Q (some (.double z)) T.heap locs) : Go p e below s Q kC kS T (mkF m pc Ls (.double z :: S)) :=
  wretV C X hd hrt rfl (Or.inr (Or.inr (Or.inl ⟨rfl, rfl, z, rfl⟩))) hk hn q
theorem waret (C : Cur p l e s m meth c Z bc ml own nm rt) (X : Stand p l e R s m args below meth c T locs cells slots) {w : Value} {t : FieldType} (hd : Dec bc pc .areturn 1 pc') (hrt : rt = some t) (ht : t.isReference = true) (hw : w.isRef = true) (hnw : narrow t w = w) (hk : cells ≤ kC) (hn : slots ≤ kS) (q : Q (some w) T.heap locs) : Go p e below s Q kC kS T (mkF m pc Ls (w :: S)) :=
  wretV C X hd hrt hnw (Or.inr (Or.inr (Or.inr (Or.inr ⟨rfl, ht, hw⟩)))) hk hn q
theorem wget (C : Cur p l e s m meth c Z bc ml own nm rt) (X : Stand p l e R s m args below meth c T locs cells slots) {R0 O n d host : String} {index : Nat} (w : (Jvm.Cond.fieldLink own index R0 n d).before a0 Z = true ∨ (Jvm.Cond.fieldLinkNest own index R0 n d host).before a0 Z = true) (via : Via Z R0 O n d) (eT : T.heap = h) {a : Addr} {v : Value} (F : Fld Z h a O n d v) (hd : Dec bc pc (.getfield index) 3 pc')
    (K : ∀ T' : State, Stand p l e R s m args below meth c T' locs cells slots → T'.heap = h → Go p e below s Q kC kS T' (mkF m pc' Ls (v :: S))) : Go p e below s Q kC kS T (mkF m pc Ls (.ref a :: S)) := by
  obtain ⟨T', X', e', st⟩ := getF X C.1 C.2.1 C.2.2.2.2.1 w via eT F (g := mkF m pc Ls (.ref a :: S)) rfl rfl (hb C.2.2.1 hd.1)
  have k := K T' X' e'
  rw [hd.2] at k
  exact Go.step st k
theorem wgets (C : Cur p l e s m meth c Z bc ml own nm rt) (X : Stand p l e R s m args below meth c T locs cells slots) {R0 O n d host : String} {index : Nat} (w : (Jvm.Cond.fieldLink own index R0 n d).before a0 Z = true ∨ (Jvm.Cond.fieldLinkNest own index R0 n d host).before a0 Z = true) (via : Via Z R0 O n d) (eT : T.heap = h) {v : Value} (F : Sta Z h O n d v) (hd : Dec bc pc (.getstatic index) 3 pc')
    (K : ∀ T' : State, Stand p l e R s m args below meth c T' locs cells slots → T'.heap = h → Go p e below s Q kC kS T' (mkF m pc' Ls (v :: S))) : Go p e below s Q kC kS T (mkF m pc Ls S) := by
  obtain ⟨T', X', e', st⟩ := getS2 X C.1 C.2.1 C.2.2.2.2.1 w via eT F (g := mkF m pc Ls S) rfl (hb C.2.2.1 hd.1)
  have k := K T' X' e'
  rw [hd.2] at k
  exact Go.step st k
theorem wput (C : Cur p l e s m meth c Z bc ml own nm rt) (X : Stand p l e R s m args below meth c T locs cells slots) {R0 O n d host C0 : String} {index kk : Nat} {ty : FieldType} (w : (Jvm.Cond.fieldLink own index R0 n d).before a0 Z = true ∨ (Jvm.Cond.fieldLinkNest own index R0 n d host).before a0 Z = true) (via : Via Z R0 O n d) (eT : T.heap = h) {a : Addr} {v old : Value} (F : Fld Z h a O n d old) (E : Exa Z h a C0)
    (L : (Jvm.Cond.lays C0 O n d).before a0 Z = true ∨ ((Jvm.Cond.laysFinal C0 O n d).before a0 Z = true ∧ own = O ∧ nm = "<init>")) (wi : (Jvm.Cond.instantiable C0 kk).before a0 Z = true) (hty : parseFieldDescriptor d = some ty) (hn : narrow ty v = v) (hf : fits ty v = true) (hd : Dec bc pc (.putfield index) 3 pc')
    (K : ∀ (T' : State) (h' : Heap), Stand p l e R s m args below meth c T' (locs ++ [⟨a, Jvm.RoadKit.slotOf Z O n d⟩]) cells slots → T'.heap = h' → Wr h h' a (Jvm.RoadKit.slotOf Z O n d) v → Go p e below s Q kC kS T' (mkF m pc' Ls S)) : Go p e below s Q kC kS T (mkF m pc Ls (v :: .ref a :: S)) := by
  obtain ⟨T', h', X', e', W, st⟩ := putF X C.1 C.2.1 C.2.2.2.2.1 w via eT F E (L.imp id fun q => ⟨q.1, q.2.1, C.2.2.2.2.2.2.2.trans q.2.2⟩) wi hty hn hf (g := mkF m pc Ls (v :: .ref a :: S)) rfl rfl (hb C.2.2.1 hd.1)
  have k := K T' h' X' e' W
  rw [hd.2] at k
  exact Go.step st k
theorem wputN (C : Cur p l e s m meth c Z bc ml own nm rt) (X : Stand p l e R s m args below meth c T locs cells slots) {R0 O n d C0 : String} {index kk : Nat} {ty : FieldType} (w : (Jvm.Cond.fieldLink own index R0 n d).before a0 Z = true) (via : Via Z R0 O n d) (eT : T.heap = h) {a : Addr} {v old : Value} (F : Fld Z h a O n d old) (E : Exa Z h a C0)
    (L : (Jvm.Cond.lays C0 O n d).before a0 Z = true ∨ ((Jvm.Cond.laysFinal C0 O n d).before a0 Z = true ∧ own = O ∧ nm = "<init>")) (wi : (Jvm.Cond.instantiable C0 kk).before a0 Z = true) (hty : parseFieldDescriptor d = some ty) (v' : Value) (hn : narrow ty v = v') (hf : fits ty v' = true) (hd : Dec bc pc (.putfield index) 3 pc')
    (K : ∀ (T' : State) (h' : Heap), Stand p l e R s m args below meth c T' (locs ++ [⟨a, Jvm.RoadKit.slotOf Z O n d⟩]) cells slots → T'.heap = h' → Wr h h' a (Jvm.RoadKit.slotOf Z O n d) v' → Go p e below s Q kC kS T' (mkF m pc' Ls S)) : Go p e below s Q kC kS T (mkF m pc Ls (v :: .ref a :: S)) := by
  obtain ⟨T', h', X', e', W, st⟩ := putFN X C.1 C.2.1 C.2.2.2.2.1 w via eT F E (L.imp id fun q => ⟨q.1, q.2.1, C.2.2.2.2.2.2.2.trans q.2.2⟩) wi hty hn hf (g := mkF m pc Ls (v :: .ref a :: S)) rfl rfl (hb C.2.2.1 hd.1)
  have k := K T' h' X' e' W
  rw [hd.2] at k
  exact Go.step st k
theorem wnew (C : Cur p l e s m meth c Z bc ml own nm rt) (X : Stand p l e R s m args below meth c T locs cells slots) {C0 : String} {index n : Nat} (w : (Jvm.Cond.classLink own index C0).before a0 Z = true) (wi : (Jvm.Cond.instantiable C0 n).before a0 Z = true) (wz : (Jvm.Cond.initialized C0).before a0 Z = true) (eT : T.heap = h) (hd : Dec bc pc (.new index) 3 pc') (hc : cells + 1 ≤ R.cells) (hl : slots + n ≤ R.slots)
    (K : ∀ (T' : State) (h' : Heap) (a : Addr), a = h.size → Stand p l e R s m args below meth c T' locs (cells + 1) (slots + n) → T'.heap = h' → Ext h h' → Exa Z h' a C0 → (∀ {O nm d : String} {ty : FieldType}, Laid Z a0 C0 O nm d → parseFieldDescriptor d = some ty → Fld Z h' a O nm d (defaultValue ty)) → Go p e below s Q kC kS T' (mkF m pc' Ls (.ref a :: S))) : Go p e below s Q kC kS T (mkF m pc Ls S) := by
  obtain ⟨T', h', X', e', E, A, D, -, st⟩ := newO X C.1 C.2.1 C.2.2.2.2.1 w wi wz eT (g := mkF m pc Ls S) rfl (hb C.2.2.1 hd.1) hc hl
  have k := K T' h' _ rfl X' e' E A D
  rw [hd.2] at k
  exact Go.step st k
theorem wnewarr (C : Cur p l e s m meth c Z bc ml own nm rt) (X : Stand p l e R s m args below meth c T locs cells slots) {aty : ArrayType} (w : (Jvm.Cond.arrayClass (newarray.typeOf aty)).before a0 Z = true) (eT : T.heap = h) {n : Int32} (hd : Dec bc pc (.newarray aty) 2 pc') (hn : ¬ n < 0) {cap : Nat} (hcap : n.toNatClampNeg ≤ cap) (hb' : cap * 8 ≤ 536870912) (hc : cells + 1 ≤ R.cells) (hl : slots + cap ≤ R.slots)
    (K : ∀ (T' : State) (h' : Heap) (a : Addr) (k : ClassId), a = h.size → Stand p l e R s m args below meth c T' locs (cells + 1) (slots + cap) → T'.heap = h' → Ext h h' → Arv Z h' a k (newarray.typeOf aty) n [] (defaultValue (newarray.typeOf aty)) → Go p e below s Q kC kS T' (mkF m pc' Ls (.ref a :: S))) : Go p e below s Q kC kS T (mkF m pc Ls (.int n :: S)) := by
  obtain ⟨T', h', kA, X', e', E, A, st⟩ := newP X C.1 C.2.1 w eT (g := mkF m pc Ls (.int n :: S)) rfl (hb C.2.2.1 hd.1) rfl hn hcap hb' hc hl
  have k := K T' h' _ kA rfl X' e' E (Arv.new A hn)
  rw [hd.2] at k
  exact Go.step st k
theorem wiaload (C : Cur p l e s m meth c Z bc ml own nm rt) (X : Stand p l e R s m args below meth c T locs cells slots) (eT : T.heap = h) {a : Addr} {ka : ClassId} {n j : Int32} {vs : List Value} {dv : Value} (V : Arv Z h a ka .int n vs dv) (hd : Dec bc pc .iaload 1 pc') (hj : ¬ j < 0 ∧ j < n) {i : Nat} (hi : j.toNatClampNeg = i) {v : Int32} (hv : vs.getD i dv = .int v) (g : Go p e below s Q kC kS T (mkF m pc' Ls (.int v :: S))) : Go p e below s Q kC kS T (mkF m pc Ls (.int j :: .ref a :: S)) := by
  obtain ⟨cl, A, -, hS, -, hH, -⟩ := V
  have hin := inb_of hS hj
  rw [hd.2] at g
  exact Go.step (fun t k => X.iaload C.1 (by rw [eT]; exact A.1) (State.isArrayOf_alike C.2.1.alike A.2.1) A.2.2 hin (hH.at hin (by rw [hi]; exact hv)) (g := mkF m pc Ls (.int j :: .ref a :: S)) rfl rfl (hb C.2.2.1 hd.1) t k) g
theorem wlaload (C : Cur p l e s m meth c Z bc ml own nm rt) (X : Stand p l e R s m args below meth c T locs cells slots) (eT : T.heap = h) {a : Addr} {ka : ClassId} {n j : Int32} {vs : List Value} {dv : Value} (V : Arv Z h a ka .long n vs dv) (hd : Dec bc pc .laload 1 pc') (hj : ¬ j < 0 ∧ j < n) {i : Nat} (hi : j.toNatClampNeg = i) {v : Int64} (hv : vs.getD i dv = .long v) (g : Go p e below s Q kC kS T (mkF m pc' Ls (.long v :: S))) : Go p e below s Q kC kS T (mkF m pc Ls (.int j :: .ref a :: S)) := by
  obtain ⟨cl, A, -, hS, -, hH, -⟩ := V
  have hin := inb_of hS hj
  rw [hd.2] at g
  exact Go.step (fun t k => X.laload C.1 (by rw [eT]; exact A.1) (State.isArrayOf_alike C.2.1.alike A.2.1) A.2.2 hin (hH.at hin (by rw [hi]; exact hv)) (g := mkF m pc Ls (.int j :: .ref a :: S)) rfl rfl (hb C.2.2.1 hd.1) t k) g
theorem wdaload (C : Cur p l e s m meth c Z bc ml own nm rt) (X : Stand p l e R s m args below meth c T locs cells slots) (eT : T.heap = h) {a : Addr} {ka : ClassId} {n j : Int32} {vs : List Value} {dv : Value} (V : Arv Z h a ka .double n vs dv) (hd : Dec bc pc .daload 1 pc') (hj : ¬ j < 0 ∧ j < n) {i : Nat} (hi : j.toNatClampNeg = i) {v : UInt64} (hv : vs.getD i dv = .double v) (g : Go p e below s Q kC kS T (mkF m pc' Ls (.double v :: S))) : Go p e below s Q kC kS T (mkF m pc Ls (.int j :: .ref a :: S)) := by
  obtain ⟨cl, A, -, hS, -, hH, -⟩ := V
  have hin := inb_of hS hj
  rw [hd.2] at g
  exact Go.step (fun t k => X.daload C.1 (by rw [eT]; exact A.1) (State.isArrayOf_alike C.2.1.alike A.2.1) A.2.2 hin (hH.at hin (by rw [hi]; exact hv)) (g := mkF m pc Ls (.int j :: .ref a :: S)) rfl rfl (hb C.2.2.1 hd.1) t k) g
theorem wcaload (C : Cur p l e s m meth c Z bc ml own nm rt) (X : Stand p l e R s m args below meth c T locs cells slots) (eT : T.heap = h) {a : Addr} {ka : ClassId} {n j : Int32} {vs : List Value} {dv : Value} (V : Arv Z h a ka .char n vs dv) (hd : Dec bc pc .caload 1 pc') (hj : ¬ j < 0 ∧ j < n) {i : Nat} (hi : j.toNatClampNeg = i) {v : Int32} (hv : vs.getD i dv = .int v) (g : Go p e below s Q kC kS T (mkF m pc' Ls (.int v :: S))) : Go p e below s Q kC kS T (mkF m pc Ls (.int j :: .ref a :: S)) := by
  obtain ⟨cl, A, -, hS, -, hH, -⟩ := V
  have hin := inb_of hS hj
  rw [hd.2] at g
  exact Go.step (fun t k => X.caload C.1 (by rw [eT]; exact A.1) (State.isArrayOf_alike C.2.1.alike A.2.1) A.2.2 hin (hH.at hin (by rw [hi]; exact hv)) (g := mkF m pc Ls (.int j :: .ref a :: S)) rfl rfl (hb C.2.2.1 hd.1) t k) g
theorem wbaloadB (C : Cur p l e s m meth c Z bc ml own nm rt) (X : Stand p l e R s m args below meth c T locs cells slots) (eT : T.heap = h) {a : Addr} {ka : ClassId} {n j : Int32} {vs : List Value} {dv : Value} (V : Arv Z h a ka .byte n vs dv) (hd : Dec bc pc .baload 1 pc') (hj : ¬ j < 0 ∧ j < n) {i : Nat} (hi : j.toNatClampNeg = i) {v : Int32} (hv : vs.getD i dv = .int v) (g : Go p e below s Q kC kS T (mkF m pc' Ls (.int v :: S))) : Go p e below s Q kC kS T (mkF m pc Ls (.int j :: .ref a :: S)) := by
  obtain ⟨cl, A, -, hS, -, hH, -⟩ := V
  have hin := inb_of hS hj
  rw [hd.2] at g
  exact Go.step (fun t k => X.baloadBytes C.1 (by rw [eT]; exact A.1) (State.isArrayOf_alike C.2.1.alike A.2.1) A.2.2 hin (hH.at hin (by rw [hi]; exact hv)) (g := mkF m pc Ls (.int j :: .ref a :: S)) rfl rfl (hb C.2.2.1 hd.1) t k) g
theorem wbaloadZ (C : Cur p l e s m meth c Z bc ml own nm rt) (X : Stand p l e R s m args below meth c T locs cells slots) (eT : T.heap = h) {a : Addr} {ka : ClassId} {n j : Int32} {vs : List Value} {dv : Value} (V : Arv Z h a ka .boolean n vs dv) (hd : Dec bc pc .baload 1 pc') (hj : ¬ j < 0 ∧ j < n) {i : Nat} (hi : j.toNatClampNeg = i) {v : Int32} (hv : vs.getD i dv = .int v) (g : Go p e below s Q kC kS T (mkF m pc' Ls (.int v :: S))) : Go p e below s Q kC kS T (mkF m pc Ls (.int j :: .ref a :: S)) := by
  obtain ⟨cl, A, -, hS, -, hH, -⟩ := V
  have hin := inb_of hS hj
  rw [hd.2] at g
  exact Go.step (fun t k => X.baloadBooleans C.1 (by rw [eT]; exact A.1) (State.isArrayOf_alike C.2.1.alike A.2.1) A.2.2 hin (hH.at hin (by rw [hi]; exact hv)) (g := mkF m pc Ls (.int j :: .ref a :: S)) rfl rfl (hb C.2.2.1 hd.1) t k) g
theorem waaload (C : Cur p l e s m meth c Z bc ml own nm rt) (X : Stand p l e R s m args below meth c T locs cells slots) (eT : T.heap = h) {a : Addr} {ka : ClassId} {ty : FieldType} {n j : Int32} {vs : List Value} {dv : Value} (V : Arv Z h a ka ty n vs dv) (hty : ty.isReference = true) (hd : Dec bc pc .aaload 1 pc') (hj : ¬ j < 0 ∧ j < n) {i : Nat} (hi : j.toNatClampNeg = i) {v : Value} (hv : vs.getD i dv = v) (g : Go p e below s Q kC kS T (mkF m pc' Ls (v :: S))) : Go p e below s Q kC kS T (mkF m pc Ls (.int j :: .ref a :: S)) := by
  obtain ⟨cl, A, -, hS, -, hH, -⟩ := V
  have hin := inb_of hS hj
  rw [hd.2] at g
  exact Go.step (fun t k => X.aaload C.1 (by rw [eT]; exact A.1) (State.isArrayOf_alike C.2.1.alike A.2.1) hty A.2.2 hin (hH.at hin (by rw [hi]; exact hv)) (g := mkF m pc Ls (.int j :: .ref a :: S)) rfl rfl (hb C.2.2.1 hd.1) t k) g
theorem walen (C : Cur p l e s m meth c Z bc ml own nm rt) (X : Stand p l e R s m args below meth c T locs cells slots) (eT : T.heap = h) {a : Addr} {ka : ClassId} {ty : FieldType} {n : Int32} {vs : List Value} {dv : Value} (V : Arv Z h a ka ty n vs dv) (hd : Dec bc pc .arraylength 1 pc') (g : Go p e below s Q kC kS T (mkF m pc' Ls (.int n :: S))) : Go p e below s Q kC kS T (mkF m pc Ls (.ref a :: S)) := by
  obtain ⟨cl, A, -, hS, hN, -, -⟩ := V
  rw [hd.2] at g
  exact Go.step (fun t k => X.arraylength C.1 (by rw [eT]; exact A.1) (State.isArrayOf_alike C.2.1.alike A.2.1) (g := mkF m pc Ls (.ref a :: S)) rfl rfl (hb C.2.2.1 hd.1) t (by rw [len_of hS hN]; exact k)) g
theorem wiastore (C : Cur p l e s m meth c Z bc ml own nm rt) (X : Stand p l e R s m args below meth c T locs cells slots) (eT : T.heap = h) {a : Addr} {ka : ClassId} {n j : Int32} {x : Int32} {vs : List Value} {dv : Value} (V : Arv Z h a ka .int n vs dv) (hd : Dec bc pc .iastore 1 pc') (hj : ¬ j < 0 ∧ j < n) (i : Nat) (hi : j.toNatClampNeg = i) (hlt : i < vs.length) (vs' : List Value) (hs : vs.set i (.int x) = vs')
    (K : ∀ (T' : State) (h' : Heap) (sl : Nat) (w : Value), Stand p l e R s m args below meth c T' (locs ++ [⟨a, sl⟩]) cells slots → T'.heap = h' → Wr h h' a sl w → Arv Z h' a ka .int n vs' dv → Go p e below s Q kC kS T' (mkF m pc' Ls S)) : Go p e below s Q kC kS T (mkF m pc Ls (.int x :: .int j :: .ref a :: S)) := by
  obtain ⟨cl, A, hk, hS, hN, hH, hG⟩ := V
  have hin := inb_of hS hj
  obtain ⟨T', h', X', e', W, st⟩ := stI X C.1 C.2.1 eT A hin (g := mkF m pc Ls (.int x :: .int j :: .ref a :: S)) rfl rfl (hb C.2.2.1 hd.1)
  have V' := Arv.set A hk hS hN hH hG rfl W i hi hlt
  subst hs
  have k := K T' h' _ _ X' e' W V'
  rw [hd.2] at k
  exact Go.step st k
theorem wlastore (C : Cur p l e s m meth c Z bc ml own nm rt) (X : Stand p l e R s m args below meth c T locs cells slots) (eT : T.heap = h) {a : Addr} {ka : ClassId} {n j : Int32} {x : Int64} {vs : List Value} {dv : Value} (V : Arv Z h a ka .long n vs dv) (hd : Dec bc pc .lastore 1 pc') (hj : ¬ j < 0 ∧ j < n) (i : Nat) (hi : j.toNatClampNeg = i) (hlt : i < vs.length) (vs' : List Value) (hs : vs.set i (.long x) = vs')
    (K : ∀ (T' : State) (h' : Heap) (sl : Nat) (w : Value), Stand p l e R s m args below meth c T' (locs ++ [⟨a, sl⟩]) cells slots → T'.heap = h' → Wr h h' a sl w → Arv Z h' a ka .long n vs' dv → Go p e below s Q kC kS T' (mkF m pc' Ls S)) : Go p e below s Q kC kS T (mkF m pc Ls (.long x :: .int j :: .ref a :: S)) := by
  obtain ⟨cl, A, hk, hS, hN, hH, hG⟩ := V
  have hin := inb_of hS hj
  obtain ⟨T', h', X', e', W, st⟩ := stJ X C.1 C.2.1 eT A hin (g := mkF m pc Ls (.long x :: .int j :: .ref a :: S)) rfl rfl (hb C.2.2.1 hd.1)
  have V' := Arv.set A hk hS hN hH hG rfl W i hi hlt
  subst hs
  have k := K T' h' _ _ X' e' W V'
  rw [hd.2] at k
  exact Go.step st k
theorem wdastore (C : Cur p l e s m meth c Z bc ml own nm rt) (X : Stand p l e R s m args below meth c T locs cells slots) (eT : T.heap = h) {a : Addr} {ka : ClassId} {n j : Int32} {x : UInt64} {vs : List Value} {dv : Value} (V : Arv Z h a ka .double n vs dv) (hd : Dec bc pc .dastore 1 pc') (hj : ¬ j < 0 ∧ j < n) (i : Nat) (hi : j.toNatClampNeg = i) (hlt : i < vs.length) (vs' : List Value) (hs : vs.set i (.double x) = vs')
    (K : ∀ (T' : State) (h' : Heap) (sl : Nat) (w : Value), Stand p l e R s m args below meth c T' (locs ++ [⟨a, sl⟩]) cells slots → T'.heap = h' → Wr h h' a sl w → Arv Z h' a ka .double n vs' dv → Go p e below s Q kC kS T' (mkF m pc' Ls S)) : Go p e below s Q kC kS T (mkF m pc Ls (.double x :: .int j :: .ref a :: S)) := by
  obtain ⟨cl, A, hk, hS, hN, hH, hG⟩ := V
  have hin := inb_of hS hj
  obtain ⟨T', h', X', e', W, st⟩ := stD X C.1 C.2.1 eT A hin (g := mkF m pc Ls (.double x :: .int j :: .ref a :: S)) rfl rfl (hb C.2.2.1 hd.1)
  have V' := Arv.set A hk hS hN hH hG rfl W i hi hlt
  subst hs
  have k := K T' h' _ _ X' e' W V'
  rw [hd.2] at k
  exact Go.step st k
theorem wcastore (C : Cur p l e s m meth c Z bc ml own nm rt) (X : Stand p l e R s m args below meth c T locs cells slots) (eT : T.heap = h) {a : Addr} {ka : ClassId} {n j : Int32} {x : Int32} {vs : List Value} {dv : Value} (V : Arv Z h a ka .char n vs dv) (hd : Dec bc pc .castore 1 pc') (hj : ¬ j < 0 ∧ j < n) (i : Nat) (hi : j.toNatClampNeg = i) (hlt : i < vs.length) (vs' : List Value) (hs : vs.set i (.int (nar .char x)) = vs')
    (K : ∀ (T' : State) (h' : Heap) (sl : Nat) (w : Value), Stand p l e R s m args below meth c T' (locs ++ [⟨a, sl⟩]) cells slots → T'.heap = h' → Wr h h' a sl w → Arv Z h' a ka .char n vs' dv → Go p e below s Q kC kS T' (mkF m pc' Ls S)) : Go p e below s Q kC kS T (mkF m pc Ls (.int x :: .int j :: .ref a :: S)) := by
  obtain ⟨cl, A, hk, hS, hN, hH, hG⟩ := V
  have hin := inb_of hS hj
  obtain ⟨T', h', X', e', W, st⟩ := stC X C.1 C.2.1 eT A hin (g := mkF m pc Ls (.int x :: .int j :: .ref a :: S)) rfl rfl (hb C.2.2.1 hd.1)
  have V' := Arv.set A hk hS hN hH hG (fits_nar_char _) W i hi hlt
  subst hs
  have k := K T' h' _ _ X' e' W V'
  rw [hd.2] at k
  exact Go.step st k
theorem wbastoreB (C : Cur p l e s m meth c Z bc ml own nm rt) (X : Stand p l e R s m args below meth c T locs cells slots) (eT : T.heap = h) {a : Addr} {ka : ClassId} {n j : Int32} {x : Int32} {vs : List Value} {dv : Value} (V : Arv Z h a ka .byte n vs dv) (hd : Dec bc pc .bastore 1 pc') (hj : ¬ j < 0 ∧ j < n) (i : Nat) (hi : j.toNatClampNeg = i) (hlt : i < vs.length) (vs' : List Value) (hs : vs.set i (.int x.toInt8.toInt32) = vs')
    (K : ∀ (T' : State) (h' : Heap) (sl : Nat) (w : Value), Stand p l e R s m args below meth c T' (locs ++ [⟨a, sl⟩]) cells slots → T'.heap = h' → Wr h h' a sl w → Arv Z h' a ka .byte n vs' dv → Go p e below s Q kC kS T' (mkF m pc' Ls S)) : Go p e below s Q kC kS T (mkF m pc Ls (.int x :: .int j :: .ref a :: S)) := by
  obtain ⟨cl, A, hk, hS, hN, hH, hG⟩ := V
  have hin := inb_of hS hj
  obtain ⟨T', h', X', e', W, st⟩ := stB X C.1 C.2.1 eT A hin (g := mkF m pc Ls (.int x :: .int j :: .ref a :: S)) rfl rfl (hb C.2.2.1 hd.1)
  have V' := Arv.set A hk hS hN hH hG (fits_nar_byte _) W i hi hlt
  subst hs
  have k := K T' h' _ _ X' e' W V'
  rw [hd.2] at k
  exact Go.step st k
theorem wbastoreZ (C : Cur p l e s m meth c Z bc ml own nm rt) (X : Stand p l e R s m args below meth c T locs cells slots) (eT : T.heap = h) {a : Addr} {ka : ClassId} {n j : Int32} {x : Int32} {vs : List Value} {dv : Value} (V : Arv Z h a ka .boolean n vs dv) (hd : Dec bc pc .bastore 1 pc') (hj : ¬ j < 0 ∧ j < n) (i : Nat) (hi : j.toNatClampNeg = i) (hlt : i < vs.length) (vs' : List Value) (hs : vs.set i (.int (nar .boolean x)) = vs')
    (K : ∀ (T' : State) (h' : Heap) (sl : Nat) (w : Value), Stand p l e R s m args below meth c T' (locs ++ [⟨a, sl⟩]) cells slots → T'.heap = h' → Wr h h' a sl w → Arv Z h' a ka .boolean n vs' dv → Go p e below s Q kC kS T' (mkF m pc' Ls S)) : Go p e below s Q kC kS T (mkF m pc Ls (.int x :: .int j :: .ref a :: S)) := by
  obtain ⟨cl, A, hk, hS, hN, hH, hG⟩ := V
  have hin := inb_of hS hj
  obtain ⟨T', h', X', e', W, st⟩ := stZ X C.1 C.2.1 eT A hin (g := mkF m pc Ls (.int x :: .int j :: .ref a :: S)) rfl rfl (hb C.2.2.1 hd.1)
  have V' := Arv.set A hk hS hN hH hG (fits_nar_bool _) W i hi hlt
  subst hs
  have k := K T' h' _ _ X' e' W V'
  rw [hd.2] at k
  exact Go.step st k
theorem winitO (C : Cur p l e s m meth c Z bc ml own nm rt) (X : Stand p l e R s m args below meth c T locs cells slots) {index : Nat} (w1 : (Jvm.Cond.methodLink own index Lib.objectInit).before a0 Z = true) (w2 : (Jvm.Cond.instanceMethod Lib.objectInit).before a0 Z = true) (w3 : (Jvm.Cond.code Lib.objectInit ⟨#[0xb1]⟩ 1 none).before a0 Z = true) (eT : T.heap = h) {a : Addr} (hd : Dec bc pc (.invokespecial index) 3 pc') (hsz : Ls.size = ml) (hf : 1 ≤ R.frames) {W : Nat} (hW : (S.map fun v => v.category).sum ≤ W) (hl : W + 12 ≤ R.locals)
    (K : ∀ T' : State, Stand p l e R s m args below meth c T' locs cells slots → T'.heap = h → Go p e below s Q kC kS T' (mkF m pc' Ls S)) : Go p e below s Q kC kS T (mkF m pc Ls (.ref a :: S)) := by
  obtain ⟨T', X', e', st⟩ := initO X C.1 C.2.1 C.2.2.2.2.1 w1 w2 w3 eT (g := mkF m pc Ls (.ref a :: S)) rfl (hsz.trans C.2.2.2.1.symm) rfl (hb C.2.2.1 hd.1) hf (W := W) (by show 2 * 0 + _ ≤ _; simpa using hW) hl
  have k := K T' X' e'
  rw [hd.2] at k
  exact Go.step st k
theorem wspecial (C : Cur p l e s m meth c Z bc ml own nm rt) (X : Stand p l e R s m args below meth c T locs cells slots) {y : MethodName} {bytes : ByteArray} {maxL : Nat} {ret : Option FieldType} {rm : Room} {as' : Array Value} {Qc : Option Value → Heap → List Loc → Prop} {index : Nat} (hy1 : y.name = "<init>") (w1 : (Jvm.Cond.methodLink own index y).before a0 Z = true) (w2 : (Jvm.Cond.instanceMethod y).before a0 Z = true) (w3 : (Jvm.Cond.code y bytes maxL ret).before a0 Z = true) (w4 : (Jvm.Cond.initialized y.cls).before a0 Z = true) (hret : ret = none) (hy : y.cls ≠ "java/lang/invoke/MethodHandle" ∧ y.cls ≠ "java/lang/invoke/VarHandle")
    (hM : MetFree l y (head1 [Jvm.Cond.code y bytes maxL ret] rm) (fun a U => a = as' ∧ Z.Warmed39 U.vm ∧ U.heap = h) (fun _ _ _ _ _ => True) (fun _ U o U' => ∃ v L, o = .returned v ∧ Qc v U'.heap L ∧ FrameEnd U o U' L rm.cells rm.slots)) (eT : T.heap = h) (hd : Dec bc pc (.invokespecial index) 3 pc') {a : Addr} {argsL rest St : List Value} (has : as' = (.ref a :: argsL).toArray) (hst : St = argsL.reverse ++ .ref a :: rest) (hlen : ∀ sig, parseMethodDescriptor y.desc = some sig → argsL.length = sig.parameters.length) (hsz : Ls.size = ml) {W : Nat} (hW : (rest.map fun v => v.category).sum ≤ W) (hf : rm.frames + 1 ≤ R.frames) (hl : W + (maxL + 11) + rm.locals ≤ R.locals) (hc : cells + rm.cells ≤ R.cells) (hs : slots + rm.slots ≤ R.slots)
    (K : ∀ (v : Option Value) (T' : State) (L' : List Loc), Stand p l e R s m args below meth c T' (locs ++ L') (cells + rm.cells) (slots + rm.slots) → Qc v T'.heap L' → Go p e below s Q kC kS T' (mkF m pc' Ls (v.toList ++ rest))) : Go p e below s Q kC kS T (mkF m pc Ls St) := by
  subst hret
  obtain ⟨v, _, ⟨T', L', k', n'⟩, -, X', ⟨Lc, hQ, l', y', z'⟩, st⟩ := X.specialBack C.1 (y := y) hy1 C.2.2.2.2.1 (mvT C.2.1 w1) (mvT C.2.1 w2) (mvT C.2.1 w3) hy (backOf (W := W) hM C.2.1 w3 w4 hf hl) (g := mkF m pc Ls St) rfl (hsz.trans C.2.2.2.1.symm) (Steps.refl _) (a := a) (argsL := argsL) (rest := rest) hlen hst (by show 2 * 0 + _ ≤ _; simpa using hW) (hb C.2.2.1 hd.1) (fun _ _ => ⟨has.symm, eT, hc, hs⟩)
  dsimp only [Pt.U, Pt.locs, Pt.cells, Pt.slots] at X' l' y' z' st hQ
  subst l' y' z'
  have k := K v T' Lc X' hQ
  rw [hd.2] at k
  exact Go.step (fun t k => st.trans k) k
theorem wvirtual (C : Cur p l e s m meth c Z bc ml own nm rt) (X : Stand p l e R s m args below meth c T locs cells slots) {y z : MethodName} {C0 : String} {bytes : ByteArray} {maxL : Nat} {ret : Option FieldType} {rm : Room} {as' : Array Value} {Qc : Option Value → Heap → List Loc → Prop} {index : Nat} (w1 : (Jvm.Cond.methodLink own index y).before a0 Z = true) (w2 : (Jvm.Cond.declares y).before a0 Z = true) (hnf : NotFace s y) (w3 : (Jvm.Cond.selects C0 y z).before a0 Z = true) (w4 : (Jvm.Cond.instanceMethod z).before a0 Z = true) (w5 : (Jvm.Cond.code z bytes maxL ret).before a0 Z = true) (w6 : (Jvm.Cond.initialized z.cls).before a0 Z = true) (hy : y.cls ≠ "java/lang/invoke/MethodHandle" ∧ y.cls ≠ "java/lang/invoke/VarHandle")
    (hM : MetFree l z (head1 [Jvm.Cond.code z bytes maxL ret] rm) (fun a U => a = as' ∧ Z.Warmed39 U.vm ∧ U.heap = h) (fun _ _ _ _ _ => True) (fun _ U o U' => ∃ v L, o = .returned v ∧ Qc v U'.heap L ∧ FrameEnd U o U' L rm.cells rm.slots)) (eT : T.heap = h) {a : Addr} (E : Exa Z h a C0) (hd : Dec bc pc (.invokevirtual index) 3 pc') {argsL rest St : List Value} (has : as' = (.ref a :: argsL).toArray) (hst : St = argsL.reverse ++ .ref a :: rest) (hlen : ∀ sig, parseMethodDescriptor y.desc = some sig → argsL.length = sig.parameters.length) (hsz : Ls.size = ml) {W : Nat} (hW : (rest.map fun v => v.category).sum ≤ W) (hf : rm.frames + 1 ≤ R.frames) (hl : W + (maxL + 11) + rm.locals ≤ R.locals) (hc : cells + rm.cells ≤ R.cells) (hs : slots + rm.slots ≤ R.slots)
    (K : ∀ (v : Option Value) (T' : State) (L' : List Loc), Stand p l e R s m args below meth c T' (locs ++ L') (cells + rm.cells) (slots + rm.slots) → Qc v T'.heap L' → Go p e below s Q kC kS T' (mkF m pc' Ls (v.toList ++ rest))) : Go p e below s Q kC kS T (mkF m pc Ls St) := by
  obtain ⟨cB, kB, q1, q2, q3⟩ := isOf C.2.1 eT E
  obtain ⟨v, _, ⟨T', L', k', n'⟩, -, X', ⟨Lc, hQ, l', y', z'⟩, st⟩ := X.virtualBack C.1 (y := y) (z := z) C.2.2.2.2.1 (mvT C.2.1 w1) (mvT C.2.1 w2) hnf (mvT C.2.1 w3) (mvT C.2.1 w4) hy (backOf (W := W) hM C.2.1 w5 w6 hf hl) q1 q3 (g := mkF m pc Ls St) rfl (hsz.trans C.2.2.2.1.symm) (Steps.refl _) (argsL := argsL) (rest := rest) hlen hst (by show 2 * 0 + _ ≤ _; simpa using hW) (hb C.2.2.1 hd.1) (fun _ _ => ⟨has.symm, eT, hc, hs⟩)
  dsimp only [Pt.U, Pt.locs, Pt.cells, Pt.slots] at X' l' y' z' st hQ
  subst l' y' z'
  have k := K v T' Lc X' hQ
  rw [hd.2] at k
  exact Go.step (fun t k => st.trans k) k
theorem own_selp {y : MethodName} {nI : Nat} (hZ : Z.Warmed39 s.vm) (wi : (Jvm.Cond.instantiable y.cls nI).before a0 Z = true) (wp : (Jvm.Cond.privateMethod y).before a0 Z = true) (w2 : (Jvm.Cond.instanceMethod y).before a0 Z = true) (hy : y.cls ≠ "java/lang/invoke/MethodHandle" ∧ y.cls ≠ "java/lang/invoke/VarHandle") : (Jvm.Cond.selects y.cls y y).before args s = true := by
  obtain ⟨c', k', h1, h2, -, h4, -⟩ := Cond.instantiable_spec (mvT (args := args) hZ wi)
  exact selects_self_of_private h1 h2 (by simp only [Bool.or_eq_false_iff] at h4; exact h4.1) (Cond.privateMethod_at (mvP hZ wp (args := args))) (mvT hZ w2) hy
theorem wprivate (C : Cur p l e s m meth c Z bc ml own nm rt) (X : Stand p l e R s m args below meth c T locs cells slots) {y : MethodName} {bytes : ByteArray} {maxL : Nat} {ret : Option FieldType} {rm : Room} {as' : Array Value} {Qc : Option Value → Heap → List Loc → Prop} {index : Nat} (w1 : (Jvm.Cond.methodLink own index y).before a0 Z = true) (w2 : (Jvm.Cond.instanceMethod y).before a0 Z = true) (w3 : (Jvm.Cond.selects y.cls y y).before a0 Z = true) (w4 : (Jvm.Cond.privateMethod y).before a0 Z = true) (w5 : (Jvm.Cond.code y bytes maxL ret).before a0 Z = true) (w6 : (Jvm.Cond.initialized y.cls).before a0 Z = true) (hy : y.cls ≠ "java/lang/invoke/MethodHandle" ∧ y.cls ≠ "java/lang/invoke/VarHandle")
    (hM : MetFree l y (head1 [Jvm.Cond.code y bytes maxL ret] rm) (fun a U => a = as' ∧ Z.Warmed39 U.vm ∧ U.heap = h) (fun _ _ _ _ _ => True) (fun _ U o U' => ∃ v L, o = .returned v ∧ Qc v U'.heap L ∧ FrameEnd U o U' L rm.cells rm.slots)) (eT : T.heap = h) {a : Addr} {C0 : String} (E : Exa Z h a C0) (hd : Dec bc pc (.invokevirtual index) 3 pc') {argsL rest St : List Value} (has : as' = (.ref a :: argsL).toArray) (hst : St = argsL.reverse ++ .ref a :: rest) (hlen : ∀ sig, parseMethodDescriptor y.desc = some sig → argsL.length = sig.parameters.length) (hsz : Ls.size = ml) {W : Nat} (hW : (rest.map fun v => v.category).sum ≤ W) (hf : rm.frames + 1 ≤ R.frames) (hl : W + (maxL + 11) + rm.locals ≤ R.locals) (hc : cells + rm.cells ≤ R.cells) (hs : slots + rm.slots ≤ R.slots)
    (K : ∀ (v : Option Value) (T' : State) (L' : List Loc), Stand p l e R s m args below meth c T' (locs ++ L') (cells + rm.cells) (slots + rm.slots) → Qc v T'.heap L' → Go p e below s Q kC kS T' (mkF m pc' Ls (v.toList ++ rest))) : Go p e below s Q kC kS T (mkF m pc Ls St) := by
  obtain ⟨cq, q1, q2⟩ := E.cell
  obtain ⟨v, _, ⟨T', L', k', n'⟩, -, X', ⟨Lc, hQ, l', y', z'⟩, st⟩ := X.privateBack C.1 (y := y) C.2.2.2.2.1 (mvT C.2.1 w1) (mvT C.2.1 w2) (mvT C.2.1 w3) (Cond.privateMethod_at (mvP C.2.1 w4 (args := #[]))) (mvT C.2.1 w5) hy (backOf (W := W) hM C.2.1 w5 w6 hf hl) (g := mkF m pc Ls St) rfl (hsz.trans C.2.2.2.1.symm) (Steps.refl _) (a := a) (by rw [eT]; exact q1) q2 (argsL := argsL) (rest := rest) hlen hst (by show 2 * 0 + _ ≤ _; simpa using hW) (hb C.2.2.1 hd.1) (fun _ _ => ⟨has.symm, eT, hc, hs⟩)
  dsimp only [Pt.U, Pt.locs, Pt.cells, Pt.slots] at X' l' y' z' st hQ
  subst l' y' z'
  have k := K v T' Lc X' hQ
  rw [hd.2] at k
  exact Go.step (fun t k => st.trans k) k
theorem wprivateI (C : Cur p l e s m meth c Z bc ml own nm rt) (X : Stand p l e R s m args below meth c T locs cells slots) {y : MethodName} {bytes : ByteArray} {maxL : Nat} {ret : Option FieldType} {rm : Room} {as' : Array Value} {Qc : Option Value → Heap → List Loc → Prop} {index : Nat} (w1 : (Jvm.Cond.methodLink own index y).before a0 Z = true) (w2 : (Jvm.Cond.instanceMethod y).before a0 Z = true) {nI : Nat} (w3 : (Jvm.Cond.instantiable y.cls nI).before a0 Z = true) (w4 : (Jvm.Cond.privateMethod y).before a0 Z = true) (w5 : (Jvm.Cond.code y bytes maxL ret).before a0 Z = true) (w6 : (Jvm.Cond.initialized y.cls).before a0 Z = true) (hy : y.cls ≠ "java/lang/invoke/MethodHandle" ∧ y.cls ≠ "java/lang/invoke/VarHandle")
    (hM : MetFree l y (head1 [Jvm.Cond.code y bytes maxL ret] rm) (fun a U => a = as' ∧ Z.Warmed39 U.vm ∧ U.heap = h) (fun _ _ _ _ _ => True) (fun _ U o U' => ∃ v L, o = .returned v ∧ Qc v U'.heap L ∧ FrameEnd U o U' L rm.cells rm.slots)) (eT : T.heap = h) {a : Addr} {C0 : String} (E : Exa Z h a C0) (hd : Dec bc pc (.invokevirtual index) 3 pc') {argsL rest St : List Value} (has : as' = (.ref a :: argsL).toArray) (hst : St = argsL.reverse ++ .ref a :: rest) (hlen : ∀ sig, parseMethodDescriptor y.desc = some sig → argsL.length = sig.parameters.length) (hsz : Ls.size = ml) {W : Nat} (hW : (rest.map fun v => v.category).sum ≤ W) (hf : rm.frames + 1 ≤ R.frames) (hl : W + (maxL + 11) + rm.locals ≤ R.locals) (hc : cells + rm.cells ≤ R.cells) (hs : slots + rm.slots ≤ R.slots)
    (K : ∀ (v : Option Value) (T' : State) (L' : List Loc), Stand p l e R s m args below meth c T' (locs ++ L') (cells + rm.cells) (slots + rm.slots) → Qc v T'.heap L' → Go p e below s Q kC kS T' (mkF m pc' Ls (v.toList ++ rest))) : Go p e below s Q kC kS T (mkF m pc Ls St) := by
  obtain ⟨cq, q1, q2⟩ := E.cell
  obtain ⟨v, _, ⟨T', L', k', n'⟩, -, X', ⟨Lc, hQ, l', y', z'⟩, st⟩ := X.privateBack C.1 (y := y) C.2.2.2.2.1 (mvT C.2.1 w1) (mvT C.2.1 w2) (own_selp C.2.1 w3 w4 w2 hy) (Cond.privateMethod_at (mvP C.2.1 w4 (args := #[]))) (mvT C.2.1 w5) hy (backOf (W := W) hM C.2.1 w5 w6 hf hl) (g := mkF m pc Ls St) rfl (hsz.trans C.2.2.2.1.symm) (Steps.refl _) (a := a) (by rw [eT]; exact q1) q2 (argsL := argsL) (rest := rest) hlen hst (by show 2 * 0 + _ ≤ _; simpa using hW) (hb C.2.2.1 hd.1) (fun _ _ => ⟨has.symm, eT, hc, hs⟩)
  dsimp only [Pt.U, Pt.locs, Pt.cells, Pt.slots] at X' l' y' z' st hQ
  subst l' y' z'
  have k := K v T' Lc X' hQ
  rw [hd.2] at k
  exact Go.step (fun t k => st.trans k) k
theorem wstatic (C : Cur p l e s m meth c Z bc ml own nm rt) (X : Stand p l e R s m args below meth c T locs cells slots) {y : MethodName} {bytes : ByteArray} {maxL : Nat} {ret : Option FieldType} {rm : Room} {as' : Array Value} {Qc : Option Value → Heap → List Loc → Prop} {index : Nat} (w1 : (Jvm.Cond.methodLink own index y).before a0 Z = true) (w2 : (Jvm.Cond.static y).before a0 Z = true) (w3 : (Jvm.Cond.initialized y.cls).before a0 Z = true) (w4 : (Jvm.Cond.code y bytes maxL ret).before a0 Z = true) (hy : y.cls ≠ "java/lang/invoke/MethodHandle" ∧ y.cls ≠ "java/lang/invoke/VarHandle")
    (hM : MetFree l y (head1 [Jvm.Cond.code y bytes maxL ret] rm) (fun a U => a = as' ∧ Z.Warmed39 U.vm ∧ U.heap = h) (fun _ _ _ _ _ => True) (fun _ U o U' => ∃ v L, o = .returned v ∧ Qc v U'.heap L ∧ FrameEnd U o U' L rm.cells rm.slots)) (eT : T.heap = h) (hd : Dec bc pc (.invokestatic index) 3 pc') {argsL rest St : List Value} (has : as' = argsL.toArray) (hst : St = argsL.reverse ++ rest) (hlen : ∀ sig, parseMethodDescriptor y.desc = some sig → argsL.length = sig.parameters.length) (hsz : Ls.size = ml) {W : Nat} (hW : (rest.map fun v => v.category).sum ≤ W) (hf : rm.frames + 1 ≤ R.frames) (hl : W + (maxL + 11) + rm.locals ≤ R.locals) (hc : cells + rm.cells ≤ R.cells) (hs : slots + rm.slots ≤ R.slots)
    (K : ∀ (v : Option Value) (T' : State) (L' : List Loc), Stand p l e R s m args below meth c T' (locs ++ L') (cells + rm.cells) (slots + rm.slots) → Qc v T'.heap L' → Go p e below s Q kC kS T' (mkF m pc' Ls (v.toList ++ rest))) : Go p e below s Q kC kS T (mkF m pc Ls St) := by
  obtain ⟨v, _, ⟨T', L', k', n'⟩, -, X', ⟨Lc, hQ, l', y', z'⟩, st⟩ := Jvm.LawKit.callS X C.1 (y := y) C.2.2.2.2.1 (mvT C.2.1 w1) (mvT C.2.1 w2) (mvT C.2.1 w3) (mvT C.2.1 w4) hy (backOf (W := W) hM C.2.1 w4 w3 hf hl) (g := mkF m pc Ls St) rfl (hsz.trans C.2.2.2.1.symm) (argsL := argsL) (rest := rest) hlen hst (by show 2 * 0 + _ ≤ _; simpa using hW) (hb C.2.2.1 hd.1) (fun _ _ => ⟨has.symm, eT, hc, hs⟩)
  dsimp only [Pt.U, Pt.locs, Pt.cells, Pt.slots] at X' l' y' z' st hQ
  subst l' y' z'
  have k := K v T' Lc X' hQ
  rw [hd.2] at k
  exact Go.step (st) k
theorem Go.mono {Q' : Option Value → Heap → List Loc → Prop} {f : JFrame} (g : Go p e below s Q kC kS T f) (q : ∀ v h L, Q v h L → Q' v h L) : Go p e below s Q' kC kS T f := by
  obtain ⟨s₂, o, h1, h2, h3, v, L, h4, h5, h6⟩ := g; exact ⟨s₂, o, h1, h2, h3, v, L, h4, q _ _ _ h5, h6⟩
theorem wldcI (C : Cur p l e s m meth c Z bc ml own nm rt) (X : Stand p l e R s m args below meth c T locs cells slots) {index : Nat} {b : Int32} (w : (Jvm.Cond.constant own index b).before a0 Z = true) (hd : Dec bc pc (.ldc index) 2 pc') (g : Go p e below s Q kC kS T (mkF m pc' Ls (.int b :: S))) : Go p e below s Q kC kS T (mkF m pc Ls S) := by
  rw [hd.2] at g
  exact Go.step (X.ldcInt C.1 C.2.2.2.2.1 (mvT C.2.1 w) (g := mkF m pc Ls S) rfl (hb C.2.2.1 hd.1)) g
theorem wldcwI (C : Cur p l e s m meth c Z bc ml own nm rt) (X : Stand p l e R s m args below meth c T locs cells slots) {index : Nat} {b : Int32} (w : (Jvm.Cond.constant own index b).before a0 Z = true) (hd : Dec bc pc (.ldc_w index) 3 pc') (g : Go p e below s Q kC kS T (mkF m pc' Ls (.int b :: S))) : Go p e below s Q kC kS T (mkF m pc Ls S) := by
  rw [hd.2] at g
  exact Go.step (X.ldcwInt C.1 C.2.2.2.2.1 (mvT C.2.1 w) (g := mkF m pc Ls S) rfl (hb C.2.2.1 hd.1)) g
theorem wldc2J (C : Cur p l e s m meth c Z bc ml own nm rt) (X : Stand p l e R s m args below meth c T locs cells slots) {index : Nat} {b : Int64} (w : (Jvm.Cond.constantLong own index b).before a0 Z = true) (hd : Dec bc pc (.ldc2_w index) 3 pc') (g : Go p e below s Q kC kS T (mkF m pc' Ls (.long b :: S))) : Go p e below s Q kC kS T (mkF m pc Ls S) := by
  rw [hd.2] at g
  exact Go.step (X.ldc2Long C.1 C.2.2.2.2.1 (mvT C.2.1 w) (g := mkF m pc Ls S) rfl (hb C.2.2.1 hd.1)) g
theorem wldc2D (C : Cur p l e s m meth c Z bc ml own nm rt) (X : Stand p l e R s m args below meth c T locs cells slots) {index : Nat} {b : UInt64} (w : (Jvm.Cond.constantDouble own index b).before a0 Z = true) (hd : Dec bc pc (.ldc2_w index) 3 pc') (g : Go p e below s Q kC kS T (mkF m pc' Ls (.double b :: S))) : Go p e below s Q kC kS T (mkF m pc Ls S) := by
  rw [hd.2] at g
  exact Go.step (X.ldc2DoubleC C.1 C.2.2.2.2.1 (mvT C.2.1 w) (g := mkF m pc Ls S) rfl (hb C.2.2.1 hd.1)) g
theorem wmaxD (C : Cur p l e s m meth c Z bc ml own nm rt) (X : Stand p l e R s m args below meth c T locs cells slots) {index : Nat} {x y : UInt64} (w1 : (Jvm.Cond.methodLink own index Jvm.Free.Fl.Abs.maxDN).before a0 Z = true) (w2 : (Jvm.Cond.static Jvm.Free.Fl.Abs.maxDN).before a0 Z = true) (w3 : (Jvm.Cond.initialized Jvm.Free.Fl.Abs.maxDN.cls).before a0 Z = true) (w4 : (Jvm.Cond.code Jvm.Free.Fl.Abs.maxDN Jvm.Free.Fl.Abs.maxDCode 4 (some .double)).before a0 Z = true)
    (eT : T.heap = h) (hd : Dec bc pc (.invokestatic index) 3 pc') (nx : Jvm.Free.Fl.NoNaN64 x) (ny : Jvm.Free.Fl.NoNaN64 y) (hsz : Ls.size = ml) {W : Nat} (hW : (S.map fun v => v.category).sum ≤ W) (hf : 1 ≤ R.frames) (hl : W + 15 ≤ R.locals) (hc : cells ≤ R.cells) (hs : slots ≤ R.slots)
    (K : ∀ T' : State, Stand p l e R s m args below meth c T' locs cells slots → T'.heap = h → Go p e below s Q kC kS T' (mkF m pc' Ls (.double (Jvm.Native.java_lang_Math.nans.pick64 true x y) :: S))) : Go p e below s Q kC kS T (mkF m pc Ls (.double y :: .double x :: S)) := by
  obtain ⟨T', X', e', st⟩ := natS X C.1 C.2.1 C.2.2.2.2.1 w1 w2 w3 w4 (by decide) eT (W := W) (F := fun a' => a' = #[.double x, .double y] ∧ Jvm.Free.Fl.NoNaN64 x ∧ Jvm.Free.Fl.NoNaN64 y) (fun c4 => Jvm.Free.Fl.Abs.maxD_pays x y c4 hf hl) (g := mkF m pc Ls (.double y :: .double x :: S)) rfl (hsz.trans C.2.2.2.1.symm) (argsL := [.double x, .double y]) (rest := S) (lenOf (show parseMethodDescriptor "(DD)D" = some ⟨[.double, .double], some .double⟩ by decide +kernel) rfl) rfl (by show 2 * 0 + _ ≤ _; simpa using hW) (hb C.2.2.1 hd.1) hc hs ⟨rfl, nx, ny⟩ rfl
  have k := K T' X' e'
  rw [hd.2] at k
  exact Go.step st k
end Kit
section Kit2
variable {p : Program} {e : Env} {below : List Frame} {s : State} {Q : Option Value → Heap → List Loc → Prop} {kC kS : Nat} {T : State} {m : MethodId} {pc : Nat} {Ls : Array Slot} {S : List Value}
theorem own_foldI {x z : Int32} (q : x = z) (g : Go p e below s Q kC kS T (mkF m pc Ls (.int z :: S))) : Go p e below s Q kC kS T (mkF m pc Ls (.int x :: S)) := q ▸ g
theorem own_foldJ {x z : Int64} (q : x = z) (g : Go p e below s Q kC kS T (mkF m pc Ls (.long z :: S))) : Go p e below s Q kC kS T (mkF m pc Ls (.long x :: S)) := q ▸ g
theorem own_foldD {x z : UInt64} (q : x = z) (g : Go p e below s Q kC kS T (mkF m pc Ls (.double z :: S))) : Go p e below s Q kC kS T (mkF m pc Ls (.double x :: S)) := q ▸ g
end Kit2
theorem tw_0 {Z : State} {a0 : Array Value} (hw : ∀ d ∈ tables_1, d.before a0 Z = true) : (Jvm.Cond.methodLink "com/example/arbor_center/arborcenter/objective/UpperEnvelopeResetPinLaw" (7 : Nat) ({ cls := "java/lang/Math", name := "min", desc := "(II)I" } : Jvm.MethodName)).before a0 Z = true := hw _ (List.mem_of_getElem? (i := 0) rfl)
theorem tw_1 {Z : State} {a0 : Array Value} (hw : ∀ d ∈ tables_1, d.before a0 Z = true) : (Jvm.Cond.static ({ cls := "java/lang/Math", name := "min", desc := "(II)I" } : Jvm.MethodName)).before a0 Z = true := hw _ (List.mem_of_getElem? (i := 1) rfl)
theorem tw_2 {Z : State} {a0 : Array Value} (hw : ∀ d ∈ tables_1, d.before a0 Z = true) : (Jvm.Cond.initialized "java/lang/Math").before a0 Z = true := hw _ (List.mem_of_getElem? (i := 2) rfl)
theorem tw_3 {Z : State} {a0 : Array Value} (hw : ∀ d ∈ tables_1, d.before a0 Z = true) : (Jvm.Cond.code ({ cls := "java/lang/Math", name := "min", desc := "(II)I" } : Jvm.MethodName) jdk_29_method_69_code (2 : Nat) (Option.some Jvm.ClassFile.FieldType.int)).before a0 Z = true := hw _ (List.mem_of_getElem? (i := 3) rfl)
theorem tw_4 {Z : State} {a0 : Array Value} (hw : ∀ d ∈ tables_1, d.before a0 Z = true) : (Jvm.Cond.arrayClass Jvm.ClassFile.FieldType.double).before a0 Z = true := hw _ (List.mem_of_getElem? (i := 4) rfl)
theorem tw_5 {Z : State} {a0 : Array Value} (hw : ∀ d ∈ tables_1, d.before a0 Z = true) : (Jvm.Cond.constantDouble "com/example/arbor_center/arborcenter/objective/UpperEnvelopeResetPinLaw" (13 : Nat) (4611686018427387904 : UInt64)).before a0 Z = true := hw _ (List.mem_of_getElem? (i := 5) rfl)
theorem tw_6 {Z : State} {a0 : Array Value} (hw : ∀ d ∈ tables_1, d.before a0 Z = true) : (Jvm.Cond.constantDouble "com/example/arbor_center/arborcenter/objective/UpperEnvelopeResetPinLaw" (15 : Nat) (4616189618054758400 : UInt64)).before a0 Z = true := hw _ (List.mem_of_getElem? (i := 6) rfl)
theorem tw_7 {Z : State} {a0 : Array Value} (hw : ∀ d ∈ tables_1, d.before a0 Z = true) : (Jvm.Cond.constantDouble "com/example/arbor_center/arborcenter/objective/UpperEnvelopeResetPinLaw" (17 : Nat) (4618441417868443648 : UInt64)).before a0 Z = true := hw _ (List.mem_of_getElem? (i := 7) rfl)
theorem tw_8 {Z : State} {a0 : Array Value} (hw : ∀ d ∈ tables_1, d.before a0 Z = true) : (Jvm.Cond.methodLink "com/example/arbor_center/arborcenter/objective/UpperEnvelopeResetPinLaw" (19 : Nat) ({ cls := "java/lang/Math", name := "max", desc := "(JJ)J" } : Jvm.MethodName)).before a0 Z = true := hw _ (List.mem_of_getElem? (i := 8) rfl)
theorem tw_9 {Z : State} {a0 : Array Value} (hw : ∀ d ∈ tables_1, d.before a0 Z = true) : (Jvm.Cond.static ({ cls := "java/lang/Math", name := "max", desc := "(JJ)J" } : Jvm.MethodName)).before a0 Z = true := hw _ (List.mem_of_getElem? (i := 9) rfl)
theorem tw_10 {Z : State} {a0 : Array Value} (hw : ∀ d ∈ tables_1, d.before a0 Z = true) : (Jvm.Cond.code ({ cls := "java/lang/Math", name := "max", desc := "(JJ)J" } : Jvm.MethodName) jdk_29_method_66_code (4 : Nat) (Option.some Jvm.ClassFile.FieldType.long)).before a0 Z = true := hw _ (List.mem_of_getElem? (i := 10) rfl)
theorem tw_11 {Z : State} {a0 : Array Value} (hw : ∀ d ∈ tables_1, d.before a0 Z = true) : (Jvm.Cond.classLink "com/example/arbor_center/arborcenter/objective/UpperEnvelopeResetPinLaw" (23 : Nat) "com/example/arbor_center/arborcenter/objective/UpperEnvelope").before a0 Z = true := hw _ (List.mem_of_getElem? (i := 11) rfl)
theorem tw_12 {Z : State} {a0 : Array Value} (hw : ∀ d ∈ tables_1, d.before a0 Z = true) : (Jvm.Cond.instantiable "com/example/arbor_center/arborcenter/objective/UpperEnvelope" (3 : Nat)).before a0 Z = true := hw _ (List.mem_of_getElem? (i := 12) rfl)
theorem tw_13 {Z : State} {a0 : Array Value} (hw : ∀ d ∈ tables_1, d.before a0 Z = true) : (Jvm.Cond.initialized "com/example/arbor_center/arborcenter/objective/UpperEnvelope").before a0 Z = true := hw _ (List.mem_of_getElem? (i := 13) rfl)
theorem tw_14 {Z : State} {a0 : Array Value} (hw : ∀ d ∈ tables_1, d.before a0 Z = true) : (Jvm.Cond.methodLink "com/example/arbor_center/arborcenter/objective/UpperEnvelopeResetPinLaw" (25 : Nat) ({ cls := "com/example/arbor_center/arborcenter/objective/UpperEnvelope", name := "<init>", desc := "(I)V" } : Jvm.MethodName)).before a0 Z = true := hw _ (List.mem_of_getElem? (i := 14) rfl)
theorem tw_15 {Z : State} {a0 : Array Value} (hw : ∀ d ∈ tables_1, d.before a0 Z = true) : (Jvm.Cond.instanceMethod ({ cls := "com/example/arbor_center/arborcenter/objective/UpperEnvelope", name := "<init>", desc := "(I)V" } : Jvm.MethodName)).before a0 Z = true := hw _ (List.mem_of_getElem? (i := 15) rfl)
theorem tw_16 {Z : State} {a0 : Array Value} (hw : ∀ d ∈ tables_1, d.before a0 Z = true) : (Jvm.Cond.code ({ cls := "com/example/arbor_center/arborcenter/objective/UpperEnvelope", name := "<init>", desc := "(I)V" } : Jvm.MethodName) prog_12_method_1_code (2 : Nat) (Option.none : Option Jvm.ClassFile.FieldType)).before a0 Z = true := hw _ (List.mem_of_getElem? (i := 16) rfl)
theorem tw_17 {Z : State} {a0 : Array Value} (hw : ∀ d ∈ tables_1, d.before a0 Z = true) : (Jvm.Cond.methodLink "com/example/arbor_center/arborcenter/objective/UpperEnvelope" (1 : Nat) ({ cls := "java/lang/Object", name := "<init>", desc := "()V" } : Jvm.MethodName)).before a0 Z = true := hw _ (List.mem_of_getElem? (i := 17) rfl)
theorem tw_18 {Z : State} {a0 : Array Value} (hw : ∀ d ∈ tables_1, d.before a0 Z = true) : (Jvm.Cond.instanceMethod ({ cls := "java/lang/Object", name := "<init>", desc := "()V" } : Jvm.MethodName)).before a0 Z = true := hw _ (List.mem_of_getElem? (i := 18) rfl)
theorem tw_19 {Z : State} {a0 : Array Value} (hw : ∀ d ∈ tables_1, d.before a0 Z = true) : (Jvm.Cond.code ({ cls := "java/lang/Object", name := "<init>", desc := "()V" } : Jvm.MethodName) object_method_1_code (1 : Nat) (Option.none : Option Jvm.ClassFile.FieldType)).before a0 Z = true := hw _ (List.mem_of_getElem? (i := 19) rfl)
theorem tw_20 {Z : State} {a0 : Array Value} (hw : ∀ d ∈ tables_1, d.before a0 Z = true) : (Jvm.Cond.fieldLink "com/example/arbor_center/arborcenter/objective/UpperEnvelope" (7 : Nat) "com/example/arbor_center/arborcenter/objective/UpperEnvelope" "halfPoints" "[D").before a0 Z = true := hw _ (List.mem_of_getElem? (i := 20) rfl)
theorem tw_21 {Z : State} {a0 : Array Value} (hw : ∀ d ∈ tables_1, d.before a0 Z = true) : (Jvm.Cond.laysFinal "com/example/arbor_center/arborcenter/objective/UpperEnvelope" "com/example/arbor_center/arborcenter/objective/UpperEnvelope" "halfPoints" "[D").before a0 Z = true := hw _ (List.mem_of_getElem? (i := 21) rfl)
theorem tw_22 {Z : State} {a0 : Array Value} (hw : ∀ d ∈ tables_1, d.before a0 Z = true) : (Jvm.Cond.fieldLink "com/example/arbor_center/arborcenter/objective/UpperEnvelope" (13 : Nat) "com/example/arbor_center/arborcenter/objective/UpperEnvelope" "lines" "[D").before a0 Z = true := hw _ (List.mem_of_getElem? (i := 22) rfl)
theorem tw_23 {Z : State} {a0 : Array Value} (hw : ∀ d ∈ tables_1, d.before a0 Z = true) : (Jvm.Cond.laysFinal "com/example/arbor_center/arborcenter/objective/UpperEnvelope" "com/example/arbor_center/arborcenter/objective/UpperEnvelope" "lines" "[D").before a0 Z = true := hw _ (List.mem_of_getElem? (i := 23) rfl)
theorem tw_24 {Z : State} {a0 : Array Value} (hw : ∀ d ∈ tables_1, d.before a0 Z = true) : (Jvm.Cond.methodLink "com/example/arbor_center/arborcenter/objective/UpperEnvelopeResetPinLaw" (28 : Nat) ({ cls := "com/example/arbor_center/arborcenter/objective/UpperEnvelope", name := "reset", desc := "([DI)V" } : Jvm.MethodName)).before a0 Z = true := hw _ (List.mem_of_getElem? (i := 24) rfl)
theorem tw_25 {Z : State} {a0 : Array Value} (hw : ∀ d ∈ tables_1, d.before a0 Z = true) : (Jvm.Cond.declares ({ cls := "com/example/arbor_center/arborcenter/objective/UpperEnvelope", name := "reset", desc := "([DI)V" } : Jvm.MethodName)).before a0 Z = true := hw _ (List.mem_of_getElem? (i := 25) rfl)
theorem tw_26 {Z : State} {a0 : Array Value} (hw : ∀ d ∈ tables_1, d.before a0 Z = true) : (Jvm.Cond.instanceMethod ({ cls := "com/example/arbor_center/arborcenter/objective/UpperEnvelope", name := "reset", desc := "([DI)V" } : Jvm.MethodName)).before a0 Z = true := hw _ (List.mem_of_getElem? (i := 26) rfl)
theorem tw_27 {Z : State} {a0 : Array Value} (hw : ∀ d ∈ tables_1, d.before a0 Z = true) : (Jvm.Cond.selects "com/example/arbor_center/arborcenter/objective/UpperEnvelope" ({ cls := "com/example/arbor_center/arborcenter/objective/UpperEnvelope", name := "reset", desc := "([DI)V" } : Jvm.MethodName) ({ cls := "com/example/arbor_center/arborcenter/objective/UpperEnvelope", name := "reset", desc := "([DI)V" } : Jvm.MethodName)).before a0 Z = true := hw _ (List.mem_of_getElem? (i := 27) rfl)
theorem tw_28 {Z : State} {a0 : Array Value} (hw : ∀ d ∈ tables_1, d.before a0 Z = true) : (Jvm.Cond.code ({ cls := "com/example/arbor_center/arborcenter/objective/UpperEnvelope", name := "reset", desc := "([DI)V" } : Jvm.MethodName) prog_12_method_2_code (4 : Nat) (Option.none : Option Jvm.ClassFile.FieldType)).before a0 Z = true := hw _ (List.mem_of_getElem? (i := 28) rfl)
theorem tw_29 {Z : State} {a0 : Array Value} (hw : ∀ d ∈ tables_1, d.before a0 Z = true) : (Jvm.Cond.fieldLink "com/example/arbor_center/arborcenter/objective/UpperEnvelope" (16 : Nat) "com/example/arbor_center/arborcenter/objective/UpperEnvelope" "count" "I").before a0 Z = true := hw _ (List.mem_of_getElem? (i := 29) rfl)
theorem tw_30 {Z : State} {a0 : Array Value} (hw : ∀ d ∈ tables_1, d.before a0 Z = true) : (Jvm.Cond.lays "com/example/arbor_center/arborcenter/objective/UpperEnvelope" "com/example/arbor_center/arborcenter/objective/UpperEnvelope" "count" "I").before a0 Z = true := hw _ (List.mem_of_getElem? (i := 30) rfl)
theorem tw_31 {Z : State} {a0 : Array Value} (hw : ∀ d ∈ tables_1, d.before a0 Z = true) : (Jvm.Cond.constantDouble "com/example/arbor_center/arborcenter/objective/UpperEnvelope" (20 : Nat) (4611686018427387904 : UInt64)).before a0 Z = true := hw _ (List.mem_of_getElem? (i := 31) rfl)
theorem tw_32 {Z : State} {a0 : Array Value} (hw : ∀ d ∈ tables_1, d.before a0 Z = true) : (Jvm.Cond.methodLink "com/example/arbor_center/arborcenter/objective/UpperEnvelopeResetPinLaw" (32 : Nat) ({ cls := "com/example/arbor_center/arborcenter/objective/UpperEnvelope", name := "add", desc := "(DD)V" } : Jvm.MethodName)).before a0 Z = true := hw _ (List.mem_of_getElem? (i := 32) rfl)
theorem tw_33 {Z : State} {a0 : Array Value} (hw : ∀ d ∈ tables_1, d.before a0 Z = true) : (Jvm.Cond.declares ({ cls := "com/example/arbor_center/arborcenter/objective/UpperEnvelope", name := "add", desc := "(DD)V" } : Jvm.MethodName)).before a0 Z = true := hw _ (List.mem_of_getElem? (i := 33) rfl)
theorem tw_34 {Z : State} {a0 : Array Value} (hw : ∀ d ∈ tables_1, d.before a0 Z = true) : (Jvm.Cond.instanceMethod ({ cls := "com/example/arbor_center/arborcenter/objective/UpperEnvelope", name := "add", desc := "(DD)V" } : Jvm.MethodName)).before a0 Z = true := hw _ (List.mem_of_getElem? (i := 34) rfl)
theorem tw_35 {Z : State} {a0 : Array Value} (hw : ∀ d ∈ tables_1, d.before a0 Z = true) : (Jvm.Cond.selects "com/example/arbor_center/arborcenter/objective/UpperEnvelope" ({ cls := "com/example/arbor_center/arborcenter/objective/UpperEnvelope", name := "add", desc := "(DD)V" } : Jvm.MethodName) ({ cls := "com/example/arbor_center/arborcenter/objective/UpperEnvelope", name := "add", desc := "(DD)V" } : Jvm.MethodName)).before a0 Z = true := hw _ (List.mem_of_getElem? (i := 35) rfl)
theorem tw_36 {Z : State} {a0 : Array Value} (hw : ∀ d ∈ tables_1, d.before a0 Z = true) : (Jvm.Cond.code ({ cls := "com/example/arbor_center/arborcenter/objective/UpperEnvelope", name := "add", desc := "(DD)V" } : Jvm.MethodName) prog_12_method_3_code (18 : Nat) (Option.none : Option Jvm.ClassFile.FieldType)).before a0 Z = true := hw _ (List.mem_of_getElem? (i := 36) rfl)
theorem tw_37 {Z : State} {a0 : Array Value} (hw : ∀ d ∈ tables_1, d.before a0 Z = true) : (Jvm.Cond.methodLink "com/example/arbor_center/arborcenter/objective/UpperEnvelopeResetPinLaw" (36 : Nat) ({ cls := "com/example/arbor_center/arborcenter/objective/UpperEnvelope", name := "at", desc := "(I)D" } : Jvm.MethodName)).before a0 Z = true := hw _ (List.mem_of_getElem? (i := 37) rfl)
theorem tw_38 {Z : State} {a0 : Array Value} (hw : ∀ d ∈ tables_1, d.before a0 Z = true) : (Jvm.Cond.declares ({ cls := "com/example/arbor_center/arborcenter/objective/UpperEnvelope", name := "at", desc := "(I)D" } : Jvm.MethodName)).before a0 Z = true := hw _ (List.mem_of_getElem? (i := 38) rfl)
theorem tw_39 {Z : State} {a0 : Array Value} (hw : ∀ d ∈ tables_1, d.before a0 Z = true) : (Jvm.Cond.instanceMethod ({ cls := "com/example/arbor_center/arborcenter/objective/UpperEnvelope", name := "at", desc := "(I)D" } : Jvm.MethodName)).before a0 Z = true := hw _ (List.mem_of_getElem? (i := 39) rfl)
theorem tw_40 {Z : State} {a0 : Array Value} (hw : ∀ d ∈ tables_1, d.before a0 Z = true) : (Jvm.Cond.selects "com/example/arbor_center/arborcenter/objective/UpperEnvelope" ({ cls := "com/example/arbor_center/arborcenter/objective/UpperEnvelope", name := "at", desc := "(I)D" } : Jvm.MethodName) ({ cls := "com/example/arbor_center/arborcenter/objective/UpperEnvelope", name := "at", desc := "(I)D" } : Jvm.MethodName)).before a0 Z = true := hw _ (List.mem_of_getElem? (i := 40) rfl)
theorem tw_41 {Z : State} {a0 : Array Value} (hw : ∀ d ∈ tables_1, d.before a0 Z = true) : (Jvm.Cond.code ({ cls := "com/example/arbor_center/arborcenter/objective/UpperEnvelope", name := "at", desc := "(I)D" } : Jvm.MethodName) prog_12_method_4_code (10 : Nat) (Option.some Jvm.ClassFile.FieldType.double)).before a0 Z = true := hw _ (List.mem_of_getElem? (i := 41) rfl)
theorem tw_42 {Z : State} {a0 : Array Value} (hw : ∀ d ∈ tables_1, d.before a0 Z = true) : (Jvm.Cond.methodLink "com/example/arbor_center/arborcenter/objective/UpperEnvelope" (22 : Nat) ({ cls := "java/lang/Math", name := "max", desc := "(DD)D" } : Jvm.MethodName)).before a0 Z = true := hw _ (List.mem_of_getElem? (i := 42) rfl)
theorem tw_43 {Z : State} {a0 : Array Value} (hw : ∀ d ∈ tables_1, d.before a0 Z = true) : (Jvm.Cond.static ({ cls := "java/lang/Math", name := "max", desc := "(DD)D" } : Jvm.MethodName)).before a0 Z = true := hw _ (List.mem_of_getElem? (i := 43) rfl)
theorem tw_44 {Z : State} {a0 : Array Value} (hw : ∀ d ∈ tables_1, d.before a0 Z = true) : (Jvm.Cond.code ({ cls := "java/lang/Math", name := "max", desc := "(DD)D" } : Jvm.MethodName) jdk_29_method_68_code (4 : Nat) (Option.some Jvm.ClassFile.FieldType.double)).before a0 Z = true := hw _ (List.mem_of_getElem? (i := 44) rfl)
theorem pd_0 : parseMethodDescriptor "(II)I" = some ⟨[.int, .int], some .int⟩ := by decide +kernel
theorem pd_1 : parseMethodDescriptor "(JJ)J" = some ⟨[.long, .long], some .long⟩ := by decide +kernel
theorem pd_2 : parseMethodDescriptor "(I)V" = some ⟨[.int], none⟩ := by decide +kernel
theorem pd_3 : parseMethodDescriptor "([DI)V" = some ⟨[(.array .double), .int], none⟩ := by decide +kernel
theorem pd_4 : parseMethodDescriptor "(DD)V" = some ⟨[.double, .double], none⟩ := by decide +kernel
theorem pd_5 : parseMethodDescriptor "(I)D" = some ⟨[.int], some .double⟩ := by decide +kernel
theorem bp_s_1023 : (Int16.ofInt 1023).toInt32 = (1023 : Int32) := by decide +kernel
theorem bp_b_10 : (Int8.ofInt 10).toInt32 = (10 : Int32) := by decide +kernel
theorem bp_b_20 : (Int8.ofInt 20).toInt32 = (20 : Int32) := by decide +kernel
theorem bp_b_12 : (Int8.ofInt 12).toInt32 = (12 : Int32) := by decide +kernel
theorem f1_0 : Dec jdk_29_method_69_code 0 (.iload_n 0) 1 1 := ⟨by decide +kernel, rfl⟩
theorem f1_1 : Dec jdk_29_method_69_code 1 (.iload_n 1) 1 2 := ⟨by decide +kernel, rfl⟩
theorem f1_2 : DecJ jdk_29_method_69_code 2 (.if_icmp .gt 7) 7 9 5 := ⟨by decide +kernel, by decide, by decide, rfl⟩
theorem f1_5 : Dec jdk_29_method_69_code 5 (.iload_n 0) 1 6 := ⟨by decide +kernel, rfl⟩
theorem f1_6 : DecJ jdk_29_method_69_code 6 (.goto 4) 4 10 9 := ⟨by decide +kernel, by decide, by decide, rfl⟩
theorem f1_9 : Dec jdk_29_method_69_code 9 (.iload_n 1) 1 10 := ⟨by decide +kernel, rfl⟩
theorem f1_10 : Dec jdk_29_method_69_code 10 (.ireturn) 1 11 := ⟨by decide +kernel, rfl⟩
theorem pn_1 : plainFor (⟨"java/lang/Math", "min", "(II)I"⟩ : MethodName) = true := Jvm.Free.JP.mathPlain rfl (by decide +kernel)
theorem ef_1 (m : MethodId) (i : Int32) (j : Int32) : entryFrame m #[(.int i), (.int j)] 2 = mkF m 0 #[.val (.int i), .val (.int j)] [] := by first | (simp [entryFrame, mkF, argsToLocals, Value.category]; done) | rfl
def R1 (i : Int32) (j : Int32) : Int32 := (if j < i then j else i)
def Q1 (Z : State) (i : Int32) (j : Int32) (h0 : Heap) (n0 : Nat) (v9 : Option Value) (h9 : Heap) (L9 : List Loc) : Prop := v9 = some (.int (R1 i j)) ∧ Fr n0 L9 ∧ h9 = h0
set_option maxRecDepth 65536 in
set_option maxHeartbeats 40000000 in
theorem rm1 (l : Launch) (Z : State) (a0 : Array Value) (hw : ∀ d ∈ tables_1, d.before a0 Z = true) (ws : List Jvm.Cond) (i : Int32) (j : Int32) (h0 : Heap) (n0 : Nat) (Z0 : n0 ≤ h0.size) :
    MetFree l (⟨"java/lang/Math", "min", "(II)I"⟩ : MethodName) (head1 (Jvm.Cond.code (⟨"java/lang/Math", "min", "(II)I"⟩ : MethodName) jdk_29_method_69_code 2 (some .int) :: ws) ({ frames := 0, cells := 0, slots := 0, locals := 0 } : Room)) (fun A9 U9 => A9 = #[(.int i), (.int j)] ∧ Z.Warmed39 U9.vm ∧ U9.heap = h0) (fun _ _ _ _ _ => True) (fun _ U9 o9 V9 => ∃ v9 L9, o9 = .returned v9 ∧ (Q1 Z i j h0 n0) v9 V9.heap L9 ∧ FrameEnd U9 o9 V9 L9 ({ frames := 0, cells := 0, slots := 0, locals := 0 } : Room).cells ({ frames := 0, cells := 0, slots := 0, locals := 0 } : Room).slots) := by
  refine met_of (Q := (Q1 Z i j h0 n0)) pn_1 ?_
  intro p e s m below meth c T0 C X0 e0
  have N0 := Fr.nil n0
  refine Go.cast (ef_1 m i j) ?_
  refine wiloadN C X0 f1_0 rfl ?_
  refine wiloadN C X0 f1_1 rfl ?_
  refine wicmp_gt C X0 f1_2 (fun hc2 => ?_) (fun hc2 => ?_)
  · refine wiloadN C X0 f1_9 rfl ?_
    refine wiret C X0 f1_10 rfl (by decide) (by decide) ?_
    rw [e0]
    exact ⟨(by unfold R1; rw [if_pos hc2]), N0, rfl⟩
  · refine wiloadN C X0 f1_5 rfl ?_
    refine wgoto C X0 f1_6 ?_
    refine wiret C X0 f1_10 rfl (by decide) (by decide) ?_
    rw [e0]
    exact ⟨(by unfold R1; rw [if_neg hc2]), N0, rfl⟩
theorem f2_0 : Dec jdk_29_method_66_code 0 (.lload_n 0) 1 1 := ⟨by decide +kernel, rfl⟩
theorem f2_1 : Dec jdk_29_method_66_code 1 (.lload_n 2) 1 2 := ⟨by decide +kernel, rfl⟩
theorem f2_2 : Dec jdk_29_method_66_code 2 (.lcmp) 1 3 := ⟨by decide +kernel, rfl⟩
theorem f2_3 : DecJ jdk_29_method_66_code 3 (.ifCond .lt 7) 7 10 6 := ⟨by decide +kernel, by decide, by decide, rfl⟩
theorem f2_6 : Dec jdk_29_method_66_code 6 (.lload_n 0) 1 7 := ⟨by decide +kernel, rfl⟩
theorem f2_7 : DecJ jdk_29_method_66_code 7 (.goto 4) 4 11 10 := ⟨by decide +kernel, by decide, by decide, rfl⟩
theorem f2_10 : Dec jdk_29_method_66_code 10 (.lload_n 2) 1 11 := ⟨by decide +kernel, rfl⟩
theorem f2_11 : Dec jdk_29_method_66_code 11 (.lreturn) 1 12 := ⟨by decide +kernel, rfl⟩
theorem pn_2 : plainFor (⟨"java/lang/Math", "max", "(JJ)J"⟩ : MethodName) = true := Jvm.Free.JP.mathPlain rfl (by decide +kernel)
theorem ef_2 (m : MethodId) (i : Int64) (j : Int64) : entryFrame m #[(.long i), (.long j)] 4 = mkF m 0 #[.val (.long i), .second, .val (.long j), .second] [] := by first | (simp [entryFrame, mkF, argsToLocals, Value.category]; done) | rfl
def R2 (i : Int64) (j : Int64) : Int64 := (if (lcmpW i j) < (0 : Int32) then j else i)
def Q2 (Z : State) (i : Int64) (j : Int64) (h0 : Heap) (n0 : Nat) (v9 : Option Value) (h9 : Heap) (L9 : List Loc) : Prop := v9 = some (.long (R2 i j)) ∧ Fr n0 L9 ∧ h9 = h0
set_option maxRecDepth 65536 in
set_option maxHeartbeats 40000000 in
theorem rm2 (l : Launch) (Z : State) (a0 : Array Value) (hw : ∀ d ∈ tables_1, d.before a0 Z = true) (ws : List Jvm.Cond) (i : Int64) (j : Int64) (h0 : Heap) (n0 : Nat) (Z0 : n0 ≤ h0.size) :
    MetFree l (⟨"java/lang/Math", "max", "(JJ)J"⟩ : MethodName) (head1 (Jvm.Cond.code (⟨"java/lang/Math", "max", "(JJ)J"⟩ : MethodName) jdk_29_method_66_code 4 (some .long) :: ws) ({ frames := 0, cells := 0, slots := 0, locals := 0 } : Room)) (fun A9 U9 => A9 = #[(.long i), (.long j)] ∧ Z.Warmed39 U9.vm ∧ U9.heap = h0) (fun _ _ _ _ _ => True) (fun _ U9 o9 V9 => ∃ v9 L9, o9 = .returned v9 ∧ (Q2 Z i j h0 n0) v9 V9.heap L9 ∧ FrameEnd U9 o9 V9 L9 ({ frames := 0, cells := 0, slots := 0, locals := 0 } : Room).cells ({ frames := 0, cells := 0, slots := 0, locals := 0 } : Room).slots) := by
  refine met_of (Q := (Q2 Z i j h0 n0)) pn_2 ?_
  intro p e s m below meth c T0 C X0 e0
  have N0 := Fr.nil n0
  refine Go.cast (ef_2 m i j) ?_
  refine wlloadN C X0 f2_0 rfl ?_
  refine wlloadN C X0 f2_1 rfl ?_
  refine wlcmp C X0 f2_2 ?_
  refine wif_lt C X0 f2_3 (fun hc3 => ?_) (fun hc3 => ?_)
  · refine wlloadN C X0 f2_10 rfl ?_
    refine wlret C X0 f2_11 rfl (by decide) (by decide) ?_
    rw [e0]
    exact ⟨(by unfold R2; rw [if_pos hc3]), N0, rfl⟩
  · refine wlloadN C X0 f2_6 rfl ?_
    refine wgoto C X0 f2_7 ?_
    refine wlret C X0 f2_11 rfl (by decide) (by decide) ?_
    rw [e0]
    exact ⟨(by unfold R2; rw [if_neg hc3]), N0, rfl⟩
theorem own_nn {i : Int} {a : UInt64} (h : FP.Core.DInt i a) : Jvm.Free.Fl.NoNaN64 a := Jvm.Free.Fl.val64_no.mpr (FP.Core.DInt_ne_nan h)
theorem own_cv {i j : Int} {a b : UInt64} (ha : FP.Core.DInt i a) (hb : FP.Core.DInt j b) (o : CmpOp) : cmpValue (FP.dcmp a b) o = if i < j then -1 else if i = j then 0 else 1 := by
  have h : FP.dcmp a b = some (compare i j) := FP.Core.dcmp_int ha hb
  rw [h]
  simp only [compare, compareOfLessAndEq]
  split
  · rfl
  · split <;> rfl
theorem own_lt {i j : Int} {a b : UInt64} (ha : FP.Core.DInt i a) (hb : FP.Core.DInt j b) (o : CmpOp) : cmpValue (FP.dcmp a b) o < (0 : Int32) ↔ i < j := by
  rw [own_cv ha hb]
  split
  · exact ⟨fun _ => by assumption, fun _ => by decide⟩
  · split
    · exact ⟨fun q => absurd q (by decide), fun q => by omega⟩
    · exact ⟨fun q => absurd q (by decide), fun q => by omega⟩
theorem own_eq {i j : Int} {a b : UInt64} (ha : FP.Core.DInt i a) (hb : FP.Core.DInt j b) (o : CmpOp) : cmpValue (FP.dcmp a b) o = (0 : Int32) ↔ i = j := by
  rw [own_cv ha hb]
  split
  · exact ⟨fun q => absurd q (by decide), fun q => by omega⟩
  · split
    · exact ⟨fun _ => by assumption, fun _ => by decide⟩
    · exact ⟨fun q => absurd q (by decide), fun q => by omega⟩
theorem own_gt {i j : Int} {a b : UInt64} (ha : FP.Core.DInt i a) (hb : FP.Core.DInt j b) (o : CmpOp) : (0 : Int32) < cmpValue (FP.dcmp a b) o ↔ j < i := by
  rw [own_cv ha hb]
  split
  · exact ⟨fun q => absurd q (by decide), fun q => by omega⟩
  · split
    · exact ⟨fun q => absurd q (by decide), fun q => by omega⟩
    · exact ⟨fun _ => by omega, fun _ => by decide⟩
theorem own_i2d (a : Int32) : FP.Core.DInt a.toInt (FP.i2d a) := FP.Core.i2d_int a
theorem own_l2d {a : Int64} (h : a.toInt.natAbs ≤ 2 ^ 53) : FP.Core.DInt a.toInt (FP.l2d a) := FP.Core.l2d_int h
theorem own_neg {i : Int} {a : UInt64} (h : FP.Core.DInt i a) : FP.Core.DInt (-i) (FP.dneg a) := by
  show FP.Core.Whole (-i) (FP.Core.val64 (FP.dneg a))
  rw [FP.val64_dneg]; exact FP.Core.whole_negate h
section Half
open Jvm.FP.Core
def own_dsh : Datum → Datum
  | .nan => .nan
  | .inf s => .inf s
  | .fin s c q => .fin s c (q + 1)
def own_H (i : Int) (a : UInt64) : Prop := Whole i (own_dsh (val64 a))
theorem own_dsh_round {i : Int} (hi : i.natAbs ≤ 2 ^ 53) {d : Datum} (h : Whole i (own_dsh d)) : Whole i (own_dsh (round b64 d)) := by
  cases d with
  | nan => exact h.elim
  | inf => exact h.elim
  | fin s c q =>
    have h' : Whole i (.fin s c (q + 1)) := h
    by_cases hi0 : i = 0
    · have hc : c = 0 := (whole_zero h').mpr hi0
      subst hc hi0
      show Whole 0 (own_dsh (roundRatio b64 s 0 1 q))
      have e : roundRatio b64 s 0 1 q = .fin s 0 b64.qmin := by unfold roundRatio; exact if_pos rfl
      rw [e]
      show signed s (0 * _) = 0 * _
      rw [Nat.zero_mul, Int.zero_mul]
      exact signed_zero s
    · obtain ⟨c', q', hfit, hv⟩ := natFit good_b64 wide_b64 s (n := i.natAbs) hi
      obtain ⟨f1, f2, f3, f4⟩ := hfit
      have hqm : b64.qmin = -1074 := by decide
      have hpp : b64.p = 53 := by decide
      have hq : b64.qmin + 1 ≤ q' := by
        by_cases hh : b64.qmin + 1 ≤ q'
        · exact hh
        · exfalso
          have e : q' = -1074 := by omega
          subst e
          have e1 : (0 - (-1074 : Int)).toNat = 1074 := by decide
          have e2 : ((-1074 : Int) - 0).toNat = 0 := by decide
          rw [e1, e2] at hv
          simp only [Nat.mul_one, Nat.pow_zero] at hv
          rw [hpp] at f1
          have p1 : (2 : Nat) ^ 53 ≤ 2 ^ 1074 := Nat.pow_le_pow_right (by decide) (by decide)
          have p2 : 1 ≤ i.natAbs := by omega
          have p3 : 1 * 2 ^ 1074 ≤ i.natAbs * 2 ^ 1074 := Nat.mul_le_mul_right _ p2
          omega
      have w := whole_round good_b64 wide_b64 (show i.natAbs ≤ 2 ^ b64.p from hi) h'
      rw [round_whole h', roundRatio_exact good_b64 (by decide) ⟨f1, f2, f3, f4⟩ hv] at w
      have f4' : b64.tails ≤ c' := by
        rcases f4 with f4 | f4
        · omega
        · exact f4
      have r : round b64 (.fin s c q) = .fin s c' (q' - 1) := by
        show roundRatio b64 s c 1 q = _
        have k := whole_natAbs h'
        have c1 : c * 1 * 2 ^ (q - (-1)).toNat = i.natAbs * 1 * 2 ^ ((-1) - q).toNat := by
          rw [show (q - (-1)).toNat = (q + 1).toNat by congr 1, show ((-1) - q).toNat = (-(q + 1)).toNat by congr 1; omega, Nat.mul_one, Nat.mul_one]
          exact k
        rw [roundRatio_congr (f := b64) (s := s) (by decide) (by decide) c1]
        refine roundRatio_exact good_b64 (by decide) ⟨f1, by omega, by omega, Or.inr f4'⟩ ?_
        rw [show ((-1 : Int) - (q' - 1)).toNat = (0 - q').toNat by congr 1; omega, show ((q' - 1) - (-1)).toNat = (q' - 0).toNat by congr 1; omega]
        exact hv
      rw [r]
      show Whole i (.fin s c' (q' - 1 + 1))
      rw [Int.sub_add_cancel]
      exact w
theorem own_dsh_units (c : Nat) (q e : Int) : inUnits c (q + 1) (e + 1) = inUnits c q e := by
  unfold inUnits; rw [Int.add_sub_add_right]
theorem own_min1 (q r : Int) : min (q + 1) (r + 1) = min q r + 1 := by omega
theorem own_dsh_sum (x y : Datum) : exactSum (own_dsh x) (own_dsh y) = own_dsh (exactSum x y) := by
  cases x with
  | nan => rfl
  | inf s => cases y with
    | nan => rfl
    | inf t => show (if s = t then Datum.inf s else .nan) = own_dsh (if s = t then Datum.inf s else .nan); split <;> rfl
    | fin => rfl
  | fin s c q => cases y with
    | nan => rfl
    | inf => rfl
    | fin t d r =>
      show exactSum (.fin s c (q + 1)) (.fin t d (r + 1)) = own_dsh (exactSum (.fin s c q) (.fin t d r))
      simp only [exactSum, own_dsh, own_min1, sumUnits, own_dsh_units]
theorem own_dsh_prod (x y : Datum) : exactProduct x (own_dsh y) = own_dsh (exactProduct x y) := by
  cases x with
  | nan => rfl
  | inf s => cases y with
    | nan => rfl
    | inf t => rfl
    | fin t d r => show (if d = 0 then Datum.nan else .inf (s != t)) = own_dsh (if d = 0 then Datum.nan else .inf (s != t)); split <;> rfl
  | fin s c q => cases y with
    | nan => rfl
    | inf t => show (if c = 0 then Datum.nan else .inf (s != t)) = own_dsh (if c = 0 then Datum.nan else .inf (s != t)); split <;> rfl
    | fin t d r => show Datum.fin (s != t) (c * d) (q + (r + 1)) = Datum.fin (s != t) (c * d) (q + r + 1); rw [Int.add_assoc]
theorem own_dsh_order (x y : Datum) : order (own_dsh x) (own_dsh y) = order x y := by
  cases x with
  | nan => rfl
  | inf s => cases y <;> rfl
  | fin s c q => cases y with
    | nan => rfl
    | inf => rfl
    | fin t d r =>
      show order (.fin s c (q + 1)) (.fin t d (r + 1)) = order (.fin s c q) (.fin t d r)
      simp only [order, own_min1, own_dsh_units]
theorem own_H_nn {i : Int} {a : UInt64} (h : own_H i a) : Jvm.Free.Fl.NoNaN64 a := Jvm.Free.Fl.val64_no.mpr fun q => by
  unfold own_H at h; rw [q] at h; exact h.elim
theorem own_H_add {i j : Int} {a b : UInt64} (ha : own_H i a) (hb : own_H j b) (h : (i + j).natAbs ≤ 2 ^ 53) : own_H (i + j) (FP.dadd a b) := by
  show Whole (i + j) (own_dsh (val64 (dadd a b)))
  rw [val64_dadd]
  exact own_dsh_round h (by rw [← own_dsh_sum]; exact whole_sum ha hb)
theorem own_H_mul {i j : Int} {a b : UInt64} (ha : DInt i a) (hb : own_H j b) (h : (i * j).natAbs ≤ 2 ^ 53) : own_H (i * j) (FP.dmul a b) := by
  show Whole (i * j) (own_dsh (val64 (dmul a b)))
  rw [val64_dmul]
  exact own_dsh_round h (by rw [← own_dsh_prod]; exact whole_product ha hb)
theorem own_two : val64 4611686018427387904 = own_dsh (val64 dconst1) := by decide +kernel
theorem own_H_dbl {i : Int} {a : UInt64} (ha : own_H i a) (h : i.natAbs ≤ 2 ^ 53) : DInt i (FP.dmul 4611686018427387904 a) := by
  show Whole i (val64 (dmul 4611686018427387904 a))
  rw [val64_dmul, own_two, exactProduct_comm, own_dsh_prod, exactProduct_comm, ← own_dsh_prod]
  refine whole_round good_b64 wide_b64 (show i.natAbs ≤ 2 ^ b64.p from h) ?_
  have w := whole_product (show DInt 1 dconst1 from dint_one) ha
  rwa [Int.one_mul] at w
theorem own_H_div {i : Int} {a : UInt64} (ha : DInt i a) (h : i.natAbs ≤ 2 ^ 53) : own_H i (FP.ddiv a 4611686018427387904) := by
  show Whole i (own_dsh (val64 (ddiv a 4611686018427387904)))
  rw [val64_ddiv]
  have e2 : val64 4611686018427387904 = .fin false (2 ^ 52) (-51) := by decide +kernel
  rw [e2]
  unfold DInt at ha
  generalize val64 a = x at ha
  cases x with
  | nan => exact ha.elim
  | inf => exact ha.elim
  | fin s c q =>
    have e3 : quotient b64 (.fin s c q) (.fin false (2 ^ 52) (-51)) = round b64 (.fin s c (q - 1)) := by
      show (if (2 ^ 52 : Nat) = 0 then (if c = 0 then Datum.nan else Datum.inf (s != false)) else roundRatio b64 (s != false) c (2 ^ 52) (q - (-51))) = roundRatio b64 s c 1 (q - 1)
      rw [if_neg (by decide), show (s != false) = s by cases s <;> rfl]
      refine roundRatio_congr (by decide) (by decide) ?_
      rw [show ((q - (-51)) - (q - 1)).toNat = 52 by omega, show ((q - 1) - (q - (-51))).toNat = 0 by omega, Nat.mul_one, Nat.pow_zero, Nat.mul_one]
    rw [e3]
    refine own_dsh_round h ?_
    show Whole i (.fin s c (q - 1 + 1))
    rw [Int.sub_add_cancel]
    exact ha
theorem own_H_cmp {i j : Int} {a b : UInt64} (ha : own_H i a) (hb : own_H j b) : FP.dcmp a b = some (compare i j) := by
  show order (val64 a) (val64 b) = _
  rw [← own_dsh_order]
  exact order_whole ha hb
theorem own_H_0 : own_H 0 0 := by
  show Whole 0 (own_dsh (val64 0))
  rw [val64_zero]
  show signed false (0 * _) = 0 * _
  rw [Nat.zero_mul, Int.zero_mul]
  exact signed_zero false
theorem own_H_cv {i j : Int} {a b : UInt64} (ha : own_H i a) (hb : own_H j b) (o : CmpOp) : cmpValue (FP.dcmp a b) o = if i < j then -1 else if i = j then 0 else 1 := by
  rw [own_H_cmp ha hb]
  simp only [compare, compareOfLessAndEq]
  split
  · rfl
  · split <;> rfl
theorem own_H_gt {i j : Int} {a b : UInt64} (ha : own_H i a) (hb : own_H j b) (o : CmpOp) : (0 : Int32) < cmpValue (FP.dcmp a b) o ↔ j < i := by
  rw [own_H_cv ha hb]
  split
  · exact ⟨fun q => absurd q (by decide), fun q => by omega⟩
  · split
    · exact ⟨fun q => absurd q (by decide), fun q => by omega⟩
    · exact ⟨fun _ => by omega, fun _ => by decide⟩
theorem own_H_max {i j : Int} {a b : UInt64} (ha : own_H i a) (hb : own_H j b) : own_H (max i j) (Jvm.Native.java_lang_Math.nans.pick64 true a b) := by
  unfold Jvm.Native.java_lang_Math.nans.pick64
  rw [own_H_cmp ha hb]
  simp only [compare, compareOfLessAndEq]
  by_cases h1 : i < j
  · rw [if_pos h1]
    show own_H (max i j) b
    rw [show max i j = j by omega]; exact hb
  · rw [if_neg h1]
    by_cases h2 : i = j
    · rw [if_pos h2]
      subst h2
      rw [show max i i = i by omega]
      show own_H i (if _ then b else a)
      split
      · exact hb
      · exact ha
    · rw [if_neg h2]
      show own_H (max i j) a
      rw [show max i j = i by omega]; exact ha
end Half
section LiChao
def own_pm : Nat → Nat → Nat → Nat → (Nat → Int) → (Nat → Int) → Int → Nat → Int
  | 0, node, _, _, W, D, v, _ => max (W node * (v + D node)) 0
  | f + 1, node, lo, hi, W, D, v, i => max (W node * (v + D node)) (if lo = hi then 0 else if i ≤ (lo + hi) / 2 then own_pm f (node + 1) lo ((lo + hi) / 2) W D v i else own_pm f (node + 2 * ((lo + hi) / 2 - lo + 1)) ((lo + hi) / 2 + 1) hi W D v i)
def own_upd (W : Nat → Int) (n : Nat) (w : Int) : Nat → Int := fun j => if j = n then w else W j
theorem own_upd_same (W : Nat → Int) (n : Nat) (w : Int) : own_upd W n w n = w := if_pos rfl
theorem own_upd_ne {W : Nat → Int} {n j : Nat} {w : Int} (h : j ≠ n) : own_upd W n w j = W j := if_neg h
theorem own_pm_congr : ∀ (f node lo hi : Nat) (W D W' D' : Nat → Int) (v : Int) (i : Nat), lo ≤ hi → (∀ j, node ≤ j → j < node + (2 * (hi - lo + 1) - 1) → W' j = W j ∧ D' j = D j) → own_pm f node lo hi W' D' v i = own_pm f node lo hi W D v i
  | 0, node, lo, hi, W, D, W', D', v, i, hl, h => by
    have q := h node (Nat.le_refl _) (by omega)
    simp only [own_pm, q.1, q.2]
  | f + 1, node, lo, hi, W, D, W', D', v, i, hl, h => by
    have q := h node (Nat.le_refl _) (by omega)
    simp only [own_pm, q.1, q.2]
    by_cases e : lo = hi
    · rw [if_pos e, if_pos e]
    · rw [if_neg e, if_neg e]
      by_cases k : i ≤ (lo + hi) / 2
      · rw [if_pos k, if_pos k, own_pm_congr f (node + 1) lo ((lo + hi) / 2) W D W' D' v i (by omega) (fun j a b => h j (by omega) (by omega))]
      · rw [if_neg k, if_neg k, own_pm_congr f (node + 2 * ((lo + hi) / 2 - lo + 1)) ((lo + hi) / 2 + 1) hi W D W' D' v i (by omega) (fun j a b => h j (by omega) (by omega))]
def own_Ins (f node lo hi : Nat) (P : Nat → Int) (W D : Nat → Int) (w d : Int) (W' D' : Nat → Int) : Prop :=
  (∀ i, lo ≤ i → i ≤ hi → own_pm f node lo hi W' D' (P i) i = max (own_pm f node lo hi W D (P i) i) (w * (P i + d))) ∧ ∀ j, j < node ∨ node + (2 * (hi - lo + 1) - 1) ≤ j → W' j = W j ∧ D' j = D j
/-- two lines: where the first climbs slower it stays beneath behind a point where it is beneath -/
theorem own_mono_lt {w1 d1 w2 d2 a b : Int} (h : w1 ≤ w2) (hab : a ≤ b) (q : w1 * (a + d1) ≤ w2 * (a + d2)) : w1 * (b + d1) ≤ w2 * (b + d2) := by
  have e1 : w1 * (b + d1) = w1 * (a + d1) + w1 * (b - a) := by rw [← Int.mul_add]; congr 1; omega
  have e2 : w2 * (b + d2) = w2 * (a + d2) + w2 * (b - a) := by rw [← Int.mul_add]; congr 1; omega
  have e3 : w1 * (b - a) ≤ w2 * (b - a) := Int.mul_le_mul_of_nonneg_right h (by omega)
  rw [e1, e2]; omega
theorem own_mono_gt {w1 d1 w2 d2 a b : Int} (h : w2 ≤ w1) (hab : b ≤ a) (q : w1 * (a + d1) ≤ w2 * (a + d2)) : w1 * (b + d1) ≤ w2 * (b + d2) := by
  have e1 : w1 * (a + d1) = w1 * (b + d1) + w1 * (a - b) := by rw [← Int.mul_add]; congr 1; omega
  have e2 : w2 * (a + d2) = w2 * (b + d2) + w2 * (a - b) := by rw [← Int.mul_add]; congr 1; omega
  have e3 : w2 * (a - b) ≤ w1 * (a - b) := Int.mul_le_mul_of_nonneg_right h (by omega)
  rw [e1, e2] at q; omega
/-- the exchange at a node -/
theorem own_swap {f node lo hi : Nat} {W D : Nat → Int} {w d v : Int} {i : Nat} (hl : lo ≤ hi) :
    max (own_pm f node lo hi (own_upd W node w) (own_upd D node d) v i) (W node * (v + D node)) = max (own_pm f node lo hi W D v i) (w * (v + d)) := by
  cases f with
  | zero => simp only [own_pm, own_upd_same]; omega
  | succ f =>
    simp only [own_pm, own_upd_same]
    by_cases e : lo = hi
    · rw [if_pos e, if_pos e]; omega
    · rw [if_neg e, if_neg e]
      by_cases k : i ≤ (lo + hi) / 2
      · rw [if_pos k, if_pos k, own_pm_congr f (node + 1) lo ((lo + hi) / 2) W D (own_upd W node w) (own_upd D node d) v i (by omega) (fun j a b => ⟨own_upd_ne (by omega), own_upd_ne (by omega)⟩)]
        omega
      · rw [if_neg k, if_neg k, own_pm_congr f (node + 2 * ((lo + hi) / 2 - lo + 1)) ((lo + hi) / 2 + 1) hi W D (own_upd W node w) (own_upd D node d) v i (by omega) (fun j a b => ⟨own_upd_ne (by omega), own_upd_ne (by omega)⟩)]
        omega
theorem own_pm_ge {f node lo hi : Nat} {W D : Nat → Int} {v : Int} {i : Nat} : W node * (v + D node) ≤ own_pm f node lo hi W D v i := by
  cases f with
  | zero => simp only [own_pm]; omega
  | succ f => simp only [own_pm]; omega
/-- nothing more to do: the line lies beneath the node's own everywhere -/
theorem own_ins_stop {f node lo hi : Nat} {P W D : Nat → Int} {w d : Int} (h : ∀ i, lo ≤ i → i ≤ hi → w * (P i + d) ≤ W node * (P i + D node)) : own_Ins f node lo hi P W D w d W D :=
  ⟨fun i a b => by have q := h i a b; have r := own_pm_ge (f := f) (node := node) (lo := lo) (hi := hi) (W := W) (D := D) (v := P i) (i := i); omega, fun j _ => ⟨rfl, rfl⟩⟩
theorem own_ins_left {f node lo hi : Nat} {P W D : Nat → Int} {w d : Int} {W' D' : Nat → Int} (hl : lo < hi) (h : ∀ i, (lo + hi) / 2 < i → i ≤ hi → w * (P i + d) ≤ W node * (P i + D node)) (q : own_Ins f (node + 1) lo ((lo + hi) / 2) P W D w d W' D') : own_Ins (f + 1) node lo hi P W D w d W' D' := by
  obtain ⟨q1, q2⟩ := q
  refine ⟨fun i a b => ?_, fun j hj => q2 j (by omega)⟩
  have en := q2 node (by omega)
  simp only [own_pm, en.1, en.2]
  have hlh : ¬ lo = hi := by omega
  rw [if_neg hlh, if_neg hlh]
  by_cases k : i ≤ (lo + hi) / 2
  · rw [if_pos k, if_pos k, q1 i a k]; omega
  · rw [if_neg k, if_neg k, own_pm_congr f (node + 2 * ((lo + hi) / 2 - lo + 1)) ((lo + hi) / 2 + 1) hi W D W' D' (P i) i (by omega) (fun j a b => q2 j (by omega))]
    have r := h i (by omega) b
    omega
theorem own_ins_right {f node lo hi : Nat} {P W D : Nat → Int} {w d : Int} {W' D' : Nat → Int} (hl : lo < hi) (h : ∀ i, lo ≤ i → i ≤ (lo + hi) / 2 → w * (P i + d) ≤ W node * (P i + D node)) (q : own_Ins f (node + 2 * ((lo + hi) / 2 - lo + 1)) ((lo + hi) / 2 + 1) hi P W D w d W' D') : own_Ins (f + 1) node lo hi P W D w d W' D' := by
  obtain ⟨q1, q2⟩ := q
  refine ⟨fun i a b => ?_, fun j hj => q2 j (by omega)⟩
  have en := q2 node (by omega)
  simp only [own_pm, en.1, en.2]
  have hlh : ¬ lo = hi := by omega
  rw [if_neg hlh, if_neg hlh]
  by_cases k : i ≤ (lo + hi) / 2
  · rw [if_pos k, if_pos k, own_pm_congr f (node + 1) lo ((lo + hi) / 2) W D W' D' (P i) i (by omega) (fun j a b => q2 j (by omega))]
    have r := h i a k
    omega
  · rw [if_neg k, if_neg k, q1 i (by omega) b]; omega
/-- over the exchange -/
theorem own_ins_swap {f node lo hi : Nat} {P W D : Nat → Int} {w d : Int} {W' D' : Nat → Int} (hl : lo ≤ hi) (q : own_Ins f node lo hi P (own_upd W node w) (own_upd D node d) (W node) (D node) W' D') : own_Ins f node lo hi P W D w d W' D' := by
  obtain ⟨q1, q2⟩ := q
  refine ⟨fun i a b => ?_, fun j hj => ?_⟩
  · rw [q1 i a b, own_swap hl]
  · have r := q2 j hj
    rw [own_upd_ne (by omega), own_upd_ne (by omega)] at r
    exact r
end LiChao
section Env
def own_L (w d : Int) (u v : UInt64) : Prop := FP.Core.DInt w u ∧ own_H d v ∧ 0 ≤ w ∧ w ≤ 65536 ∧ 0 ≤ d ∧ d ≤ 32768
def own_P (q : Int) (u : UInt64) : Prop := own_H q u ∧ 0 ≤ q ∧ q ≤ 65536
theorem own_pd {q w d : Int} {t u v : UInt64} (hp : own_P q t) (hl : own_L w d u v) : own_H (q + d) (FP.dadd t v) := own_H_add hp.1 hl.2.1 (by unfold own_P at hp; unfold own_L at hl; omega)
theorem own_lvb {q w d : Int} {t u v : UInt64} (hp : own_P q t) (hl : own_L w d u v) : 0 ≤ w * (q + d) ∧ w * (q + d) ≤ 6442450944 := by
  unfold own_P at hp; unfold own_L at hl
  have m := mc (a := w) (b := q + d) (l1 := 0) (h1 := 65536) (l2 := 0) (h2 := 98304) (by omega) (by omega) (by omega) (by omega)
  omega
theorem own_lv {q w d : Int} {t u v : UInt64} (hp : own_P q t) (hl : own_L w d u v) : own_H (w * (q + d)) (FP.dmul u (FP.dadd t v)) := own_H_mul hl.1 (own_pd hp hl) (by have := own_lvb hp hl; omega)
def own_Ls (ls : List Value) (W D : Nat → Int) : Prop := ls.length = 14 ∧ ∀ j, j < 7 → ∃ u v, ls.getD (2 * j) (.double (0 : UInt64)) = .double u ∧ ls.getD (2 * j + 1) (.double (0 : UInt64)) = .double v ∧ own_L (W j) (D j) u v
theorem own_g_same {ls : List Value} {i : Nat} {v e : Value} (h : i < ls.length) : (ls.set i v).getD i e = v := by
  rw [List.getD_eq_getElem?_getD, List.getElem?_set_self h]; rfl
theorem own_g_ne {ls : List Value} {i j : Nat} {v e : Value} (h : i ≠ j) : (ls.set i v).getD j e = ls.getD j e := by
  rw [List.getD_eq_getElem?_getD, List.getElem?_set_ne h, List.getD_eq_getElem?_getD]
theorem own_Ls_set {ls : List Value} {W D : Nat → Int} {j : Nat} {w d : Int} {u v : UInt64} (h : own_Ls ls W D) (hj : j < 7) (hl : own_L w d u v) : own_Ls ((ls.set (2 * j) (.double u)).set (2 * j + 1) (.double v)) (own_upd W j w) (own_upd D j d) := by
  have hn := h.1
  refine ⟨by rw [List.length_set, List.length_set]; exact hn, fun i hi => ?_⟩
  by_cases q : i = j
  · subst q
    refine ⟨u, v, ?_, ?_, ?_⟩
    · rw [own_g_ne (by omega), own_g_same (by omega)]
    · rw [own_g_same (by rw [List.length_set]; omega)]
    · rw [own_upd_same, own_upd_same]; exact hl
  · obtain ⟨u', v', h1, h2, h3⟩ := h.2 i hi
    refine ⟨u', v', ?_, ?_, ?_⟩
    · rw [own_g_ne (by omega), own_g_ne (by omega)]; exact h1
    · rw [own_g_ne (by omega), own_g_ne (by omega)]; exact h2
    · rw [own_upd_ne q, own_upd_ne q]; exact h3
def own_Ps (hp : List Value) (P : Nat → Int) (k : Nat) : Prop := hp.length = 4 ∧ ∀ i, i < k → ∃ u, hp.getD i (.double (0 : UInt64)) = .double u ∧ own_P (P i) u
theorem own_di {i j : Int} {u : UInt64} (h : FP.Core.DInt i u) (e : i = j) : FP.Core.DInt j u := e ▸ h
theorem own_cl : ∀ k, k < 16 → (Int32.ofNat k).toNatClampNeg = k := by decide
theorem own_ix14 : ∀ k, k < 14 → ¬ Int32.ofNat k < 0 ∧ Int32.ofNat k < (14 : Int32) := by decide
theorem own_ix4 : ∀ k, k < 4 → ¬ Int32.ofNat k < 0 ∧ Int32.ofNat k < (4 : Int32) := by decide
theorem own_eqn : ∀ i, i < 4 → ∀ j, j < 4 → Int32.ofNat i = Int32.ofNat j → i = j := by decide
theorem own_mid : ∀ i, i < 4 → ∀ j, j < 4 → ((Int32.ofNat i + Int32.ofNat j).toUInt32 >>> ((1 : Int32) &&& 31).toUInt32).toInt32 = Int32.ofNat ((i + j) / 2) := by decide
theorem own_n2 : ∀ k, k < 7 → (2 : Int32) * Int32.ofNat k = Int32.ofNat (2 * k) := by decide
theorem own_n1 : ∀ k, k < 16 → Int32.ofNat k + (1 : Int32) = Int32.ofNat (k + 1) := by decide
theorem own_nr : ∀ k, k < 7 → ∀ i, i < 4 → ∀ j, j ≤ i → Int32.ofNat k + ((2 : Int32) * ((Int32.ofNat i - Int32.ofNat j) + (1 : Int32))) = Int32.ofNat (k + 2 * (i - j + 1)) := by decide
def own_Sl (s12 s13 s14 s15 s16 s17 : Slot) : Prop := (s12 = .unset ∧ s13 = .unset ∧ s14 = .unset ∧ s15 = .unset ∧ s16 = .unset ∧ s17 = .unset) ∨ ∃ (a b : Int32) (u v : UInt64), s12 = .val (.int a) ∧ s13 = .val (.double u) ∧ s14 = .second ∧ s15 = .val (.double v) ∧ s16 = .second ∧ s17 = .val (.int b)
def own_QI (Z : State) (pl : Addr) (k2 : ClassId) (h0 : Heap) (n0 f nd lo hi : Nat) (P W D : Nat → Int) (w d : Int) (v9 : Option Value) (h9 : Heap) (L9 : List Loc) : Prop := v9 = none ∧ Fr n0 L9 ∧ Keep h0 h9 [pl] ∧ ∃ (ls' : List Value) (W' D' : Nat → Int), Arv Z h9 pl k2 .double (14 : Int32) ls' (.double (0 : UInt64)) ∧ own_Ls ls' W' D' ∧ own_Ins f nd lo hi P W D w d W' D'
end Env
theorem f3_0 : Dec prog_12_method_1_code 0 (.aload_n 0) 1 1 := ⟨by decide +kernel, rfl⟩
theorem f3_1 : Dec prog_12_method_1_code 1 (.invokespecial 1) 3 4 := ⟨by decide +kernel, rfl⟩
theorem f3_4 : Dec prog_12_method_1_code 4 (.aload_n 0) 1 5 := ⟨by decide +kernel, rfl⟩
theorem f3_5 : Dec prog_12_method_1_code 5 (.iload_n 1) 1 6 := ⟨by decide +kernel, rfl⟩
theorem f3_6 : Dec prog_12_method_1_code 6 (.newarray .double) 2 8 := ⟨by decide +kernel, rfl⟩
theorem f3_8 : Dec prog_12_method_1_code 8 (.putfield 7) 3 11 := ⟨by decide +kernel, rfl⟩
theorem f3_11 : Dec prog_12_method_1_code 11 (.aload_n 0) 1 12 := ⟨by decide +kernel, rfl⟩
theorem f3_12 : Dec prog_12_method_1_code 12 (.iconst 2) 1 13 := ⟨by decide +kernel, rfl⟩
theorem f3_13 : Dec prog_12_method_1_code 13 (.iconst 2) 1 14 := ⟨by decide +kernel, rfl⟩
theorem f3_14 : Dec prog_12_method_1_code 14 (.iload_n 1) 1 15 := ⟨by decide +kernel, rfl⟩
theorem f3_15 : Dec prog_12_method_1_code 15 (.imul) 1 16 := ⟨by decide +kernel, rfl⟩
theorem f3_16 : Dec prog_12_method_1_code 16 (.iconst 1) 1 17 := ⟨by decide +kernel, rfl⟩
theorem f3_17 : Dec prog_12_method_1_code 17 (.isub) 1 18 := ⟨by decide +kernel, rfl⟩
theorem f3_18 : Dec prog_12_method_1_code 18 (.imul) 1 19 := ⟨by decide +kernel, rfl⟩
theorem f3_19 : Dec prog_12_method_1_code 19 (.newarray .double) 2 21 := ⟨by decide +kernel, rfl⟩
theorem f3_21 : Dec prog_12_method_1_code 21 (.putfield 13) 3 24 := ⟨by decide +kernel, rfl⟩
theorem f3_24 : Dec prog_12_method_1_code 24 (.return_) 1 25 := ⟨by decide +kernel, rfl⟩
theorem pn_3 : plainFor (⟨"com/example/arbor_center/arborcenter/objective/UpperEnvelope", "<init>", "(I)V"⟩ : MethodName) = true := plainFor_of_name (show plainName "com/example/arbor_center/arborcenter/objective/UpperEnvelope" = true by first | (simp [plainName, overriddenIn]; done) | decide +kernel)
theorem ef_3 (m : MethodId) (a : Addr) (cap : Int32) : entryFrame m #[(.ref a), (.int cap)] 2 = mkF m 0 #[.val (.ref a), .val (.int cap)] [] := by first | (simp [entryFrame, mkF, argsToLocals, Value.category]; done) | rfl
def Q3 (Z : State) (a : Addr) (cap : Int32) (h0 : Heap) (n0 : Nat) (v9 : Option Value) (h9 : Heap) (L9 : List Loc) : Prop := ∃ (ph : Addr), ∃ (pl : Addr), ∃ (k1 : ClassId), ∃ (k2 : ClassId), v9 = none ∧ Fr n0 L9 ∧ Keep h0 h9 [a] ∧ Exa Z h9 a "com/example/arbor_center/arborcenter/objective/UpperEnvelope" ∧ h0.size ≤ ph ∧ h0.size ≤ pl ∧ ph ≠ pl ∧ Fld Z h9 a "com/example/arbor_center/arborcenter/objective/UpperEnvelope" "halfPoints" "[D" (.ref ph) ∧ Fld Z h9 a "com/example/arbor_center/arborcenter/objective/UpperEnvelope" "count" "I" (.int (0 : Int32)) ∧ Fld Z h9 a "com/example/arbor_center/arborcenter/objective/UpperEnvelope" "lines" "[D" (.ref pl) ∧ Arv Z h9 ph k1 .double (4 : Int32) [(.double (0 : UInt64)), (.double (0 : UInt64)), (.double (0 : UInt64)), (.double (0 : UInt64))] (.double (0 : UInt64)) ∧ Arv Z h9 pl k2 .double (14 : Int32) [(.double (0 : UInt64)), (.double (0 : UInt64)), (.double (0 : UInt64)), (.double (0 : UInt64)), (.double (0 : UInt64)), (.double (0 : UInt64)), (.double (0 : UInt64)), (.double (0 : UInt64)), (.double (0 : UInt64)), (.double (0 : UInt64)), (.double (0 : UInt64)), (.double (0 : UInt64)), (.double (0 : UInt64)), (.double (0 : UInt64))] (.double (0 : UInt64))
set_option maxRecDepth 65536 in
set_option maxHeartbeats 40000000 in
theorem rm3 (l : Launch) (Z : State) (a0 : Array Value) (hw : ∀ d ∈ tables_1, d.before a0 Z = true) (ws : List Jvm.Cond) (a : Addr) (cap : Int32) (h0 : Heap) (n0 : Nat) (Z0 : n0 ≤ h0.size) (Exa_0 : Exa Z h0 a "com/example/arbor_center/arborcenter/objective/UpperEnvelope") (Fld_1 : Fld Z h0 a "com/example/arbor_center/arborcenter/objective/UpperEnvelope" "halfPoints" "[D" .null) (Fld_2 : Fld Z h0 a "com/example/arbor_center/arborcenter/objective/UpperEnvelope" "count" "I" (.int (0 : Int32))) (Fld_3 : Fld Z h0 a "com/example/arbor_center/arborcenter/objective/UpperEnvelope" "lines" "[D" .null) (ge_4 : n0 ≤ a) (hcap : (cap = (4 : Int32))) :
    MetFree l (⟨"com/example/arbor_center/arborcenter/objective/UpperEnvelope", "<init>", "(I)V"⟩ : MethodName) (head1 (Jvm.Cond.code (⟨"com/example/arbor_center/arborcenter/objective/UpperEnvelope", "<init>", "(I)V"⟩ : MethodName) prog_12_method_1_code 2 none :: ws) ({ frames := 1, cells := 2, slots := 18, locals := 12 } : Room)) (fun A9 U9 => A9 = #[(.ref a), (.int cap)] ∧ Z.Warmed39 U9.vm ∧ U9.heap = h0) (fun _ _ _ _ _ => True) (fun _ U9 o9 V9 => ∃ v9 L9, o9 = .returned v9 ∧ (Q3 Z a cap h0 n0) v9 V9.heap L9 ∧ FrameEnd U9 o9 V9 L9 ({ frames := 1, cells := 2, slots := 18, locals := 12 } : Room).cells ({ frames := 1, cells := 2, slots := 18, locals := 12 } : Room).slots) := by
  refine met_of (Q := (Q3 Z a cap h0 n0)) pn_3 ?_
  intro p e s m below meth c T0 C X0 e0
  have N0 := Fr.nil n0
  refine Go.cast (ef_3 m a cap) ?_
  subst hcap
  refine waloadN C X0 f3_0 rfl rfl ?_
  refine winitO C X0 (tw_17 hw) (tw_18 hw) (tw_19 hw) e0 f3_1 rfl (by decide) (W := 0) (Nat.le_of_eq rfl) (by decide) ?_
  intro T1 X1 e1
  refine waloadN C X1 f3_4 rfl rfl ?_
  refine wiloadN C X1 f3_5 rfl ?_
  refine wnewarr C X1 (aty := .double) (tw_4 hw) e1 f3_6 (by decide) (cap := 4) (by decide) (by decide) (by decide) (by decide) ?_
  intro T2 h2 b2 k2 g2 X2 e2 E2 V2
  have sz2 : h0.size ≤ b2 := Nat.le_trans (Nat.le_refl h0.size) (Nat.le_of_eq g2.symm)
  have Vp2 : Arv Z h2 b2 k2 .double (4 : Int32) [(.double (0 : UInt64)), (.double (0 : UInt64)), (.double (0 : UInt64)), (.double (0 : UInt64))] (.double (0 : UInt64)) := Arv.pad V2 (pad_rep [] (.double (0 : UInt64)) 4)
  refine wput C X2 (host := "") (Or.inl (tw_20 hw)) Via.refl e2 (Fld_1.ext E2) (Exa_0.ext E2) (Or.inr ⟨(tw_21 hw), rfl, rfl⟩) (tw_12 hw) (ty := (.array .double)) (by decide) rfl rfl f3_8 ?_
  intro T3 h3 X3 e3 W3
  have Fw3 := (Fld_1.ext E2).same W3
  have N3 := Fr.snoc X3 N0 ge_4
  refine waloadN C X3 f3_11 rfl rfl ?_
  refine wiconst C X3 f3_12 (2 : Int32) rfl ?_
  refine wiconst C X3 f3_13 (2 : Int32) rfl ?_
  refine wiloadN C X3 f3_14 rfl ?_
  refine wimul C X3 f3_15 ?_
  refine own_foldI (z := (8 : Int32)) (by decide) ?_
  refine wiconst C X3 f3_16 (1 : Int32) rfl ?_
  refine wisub C X3 f3_17 ?_
  refine own_foldI (z := (7 : Int32)) (by decide) ?_
  refine wimul C X3 f3_18 ?_
  refine own_foldI (z := (14 : Int32)) (by decide) ?_
  have q5 := (Nat.le_trans (Nat.le_trans (Nat.le_refl h0.size) E2.1) (Nat.le_of_eq W3.size.symm))
  refine wnewarr C X3 (aty := .double) (tw_4 hw) e3 f3_19 (by decide) (cap := 14) (by decide) (by decide) (by decide) (by decide) ?_
  intro T4 h4 b4 k4 g4 X4 e4 E4 V4
  have sz4 : h0.size ≤ b4 := Nat.le_trans q5 (Nat.le_of_eq g4.symm)
  have Vp4 : Arv Z h4 b4 k4 .double (14 : Int32) [(.double (0 : UInt64)), (.double (0 : UInt64)), (.double (0 : UInt64)), (.double (0 : UInt64)), (.double (0 : UInt64)), (.double (0 : UInt64)), (.double (0 : UInt64)), (.double (0 : UInt64)), (.double (0 : UInt64)), (.double (0 : UInt64)), (.double (0 : UInt64)), (.double (0 : UInt64)), (.double (0 : UInt64)), (.double (0 : UInt64))] (.double (0 : UInt64)) := Arv.pad V4 (pad_rep [] (.double (0 : UInt64)) 14)
  have q6 := (((Fld_3.ext E2).other W3 (Or.inr (slot_ne (Or.inr (tw_23 hw)) (Or.inr (tw_21 hw)) (by decide) (t := (.array .double)) (t' := (.array .double)) (by decide) (by decide)))).ext E4)
  refine wput C X4 (host := "") (Or.inl (tw_22 hw)) Via.refl e4 q6 (((Exa_0.ext E2).wr W3).ext E4) (Or.inr ⟨(tw_23 hw), rfl, rfl⟩) (tw_12 hw) (ty := (.array .double)) (by decide) rfl rfl f3_21 ?_
  intro T7 h7 X7 e7 W7
  have Fw7 := q6.same W7
  have N7 := Fr.snoc X7 N3 ge_4
  refine wret C X7 f3_24 rfl (by decide) (by decide) ?_
  rw [e7]
  have q8 := (((((Keep.refl h0 [a]).ext E2).wr W3 (Or.inl (List.mem_of_getElem? (i := 0) rfl))).ext E4).wr W7 (Or.inl (List.mem_of_getElem? (i := 0) rfl)))
  have ne9 : b2 ≠ b4 := (Nat.ne_of_lt (Nat.lt_of_lt_of_le (Nat.lt_of_lt_of_eq Vp2.lt W3.size.symm) (Nat.le_of_eq g4.symm)))
  have q10 := ((Fw3.ext E4).other W7 (Or.inr (slot_ne (Or.inr (tw_21 hw)) (Or.inr (tw_23 hw)) (by decide) (t := (.array .double)) (t' := (.array .double)) (by decide) (by decide))))
  have q11 := ((((Fld_2.ext E2).other W3 (Or.inr (slot_ne (Or.inl (tw_30 hw)) (Or.inr (tw_21 hw)) (by decide) (t := .int) (t' := (.array .double)) (by decide) (by decide)))).ext E4).other W7 (Or.inr (slot_ne (Or.inl (tw_30 hw)) (Or.inr (tw_23 hw)) (by decide) (t := .int) (t' := (.array .double)) (by decide) (by decide))))
  have ne12 : a ≠ b2 := (Nat.ne_of_lt (Nat.lt_of_lt_of_le Exa_0.lt (Nat.le_of_eq g2.symm)))
  have q13 := (((Vp2.other W3 (Ne.symm ne12)).ext E4).other W7 (Ne.symm ne12))
  have ne14 : a ≠ b4 := (Nat.ne_of_lt (Nat.lt_of_lt_of_le (Nat.lt_of_lt_of_eq (Nat.lt_of_lt_of_le Exa_0.lt E2.1) W3.size.symm) (Nat.le_of_eq g4.symm)))
  exact ⟨b2, b4, k2, k4, rfl, N7, q8, ((((Exa_0.ext E2).wr W3).ext E4).wr W7), sz2, sz4, ne9, q10, q11, Fw7, q13, (Vp4.other W7 (Ne.symm ne14))⟩
theorem f6_24 : Dec prog_12_method_3_code 24 (.iload 10) 2 26 := ⟨by decide +kernel, rfl⟩
theorem f6_26 : Dec prog_12_method_3_code 26 (.iload 11) 2 28 := ⟨by decide +kernel, rfl⟩
theorem f6_28 : Dec prog_12_method_3_code 28 (.iadd) 1 29 := ⟨by decide +kernel, rfl⟩
theorem f6_29 : Dec prog_12_method_3_code 29 (.iconst 1) 1 30 := ⟨by decide +kernel, rfl⟩
theorem f6_30 : Dec prog_12_method_3_code 30 (.iushr) 1 31 := ⟨by decide +kernel, rfl⟩
theorem f6_31 : Dec prog_12_method_3_code 31 (.istore 12) 2 33 := ⟨by decide +kernel, rfl⟩
theorem f6_33 : Dec prog_12_method_3_code 33 (.aload_n 0) 1 34 := ⟨by decide +kernel, rfl⟩
theorem f6_34 : Dec prog_12_method_3_code 34 (.getfield 13) 3 37 := ⟨by decide +kernel, rfl⟩
theorem f6_37 : Dec prog_12_method_3_code 37 (.iconst 2) 1 38 := ⟨by decide +kernel, rfl⟩
theorem f6_38 : Dec prog_12_method_3_code 38 (.iload 9) 2 40 := ⟨by decide +kernel, rfl⟩
theorem f6_40 : Dec prog_12_method_3_code 40 (.imul) 1 41 := ⟨by decide +kernel, rfl⟩
theorem f6_41 : Dec prog_12_method_3_code 41 (.daload) 1 42 := ⟨by decide +kernel, rfl⟩
theorem f6_42 : Dec prog_12_method_3_code 42 (.dstore 13) 2 44 := ⟨by decide +kernel, rfl⟩
theorem f6_44 : Dec prog_12_method_3_code 44 (.aload_n 0) 1 45 := ⟨by decide +kernel, rfl⟩
theorem f6_45 : Dec prog_12_method_3_code 45 (.getfield 13) 3 48 := ⟨by decide +kernel, rfl⟩
theorem f6_48 : Dec prog_12_method_3_code 48 (.iconst 2) 1 49 := ⟨by decide +kernel, rfl⟩
theorem f6_49 : Dec prog_12_method_3_code 49 (.iload 9) 2 51 := ⟨by decide +kernel, rfl⟩
theorem f6_51 : Dec prog_12_method_3_code 51 (.imul) 1 52 := ⟨by decide +kernel, rfl⟩
theorem f6_52 : Dec prog_12_method_3_code 52 (.iconst 1) 1 53 := ⟨by decide +kernel, rfl⟩
theorem f6_53 : Dec prog_12_method_3_code 53 (.iadd) 1 54 := ⟨by decide +kernel, rfl⟩
theorem f6_54 : Dec prog_12_method_3_code 54 (.daload) 1 55 := ⟨by decide +kernel, rfl⟩
theorem f6_55 : Dec prog_12_method_3_code 55 (.dstore 15) 2 57 := ⟨by decide +kernel, rfl⟩
theorem f6_57 : Dec prog_12_method_3_code 57 (.dload 5) 2 59 := ⟨by decide +kernel, rfl⟩
theorem f6_59 : Dec prog_12_method_3_code 59 (.aload_n 0) 1 60 := ⟨by decide +kernel, rfl⟩
theorem f6_60 : Dec prog_12_method_3_code 60 (.getfield 7) 3 63 := ⟨by decide +kernel, rfl⟩
theorem f6_63 : Dec prog_12_method_3_code 63 (.iload 12) 2 65 := ⟨by decide +kernel, rfl⟩
theorem f6_65 : Dec prog_12_method_3_code 65 (.daload) 1 66 := ⟨by decide +kernel, rfl⟩
theorem f6_66 : Dec prog_12_method_3_code 66 (.dload 7) 2 68 := ⟨by decide +kernel, rfl⟩
theorem f6_68 : Dec prog_12_method_3_code 68 (.dadd) 1 69 := ⟨by decide +kernel, rfl⟩
theorem f6_69 : Dec prog_12_method_3_code 69 (.dmul) 1 70 := ⟨by decide +kernel, rfl⟩
theorem f6_70 : Dec prog_12_method_3_code 70 (.dload 13) 2 72 := ⟨by decide +kernel, rfl⟩
theorem f6_72 : Dec prog_12_method_3_code 72 (.aload_n 0) 1 73 := ⟨by decide +kernel, rfl⟩
theorem f6_73 : Dec prog_12_method_3_code 73 (.getfield 7) 3 76 := ⟨by decide +kernel, rfl⟩
theorem f6_76 : Dec prog_12_method_3_code 76 (.iload 12) 2 78 := ⟨by decide +kernel, rfl⟩
theorem f6_78 : Dec prog_12_method_3_code 78 (.daload) 1 79 := ⟨by decide +kernel, rfl⟩
theorem f6_79 : Dec prog_12_method_3_code 79 (.dload 15) 2 81 := ⟨by decide +kernel, rfl⟩
theorem f6_81 : Dec prog_12_method_3_code 81 (.dadd) 1 82 := ⟨by decide +kernel, rfl⟩
theorem f6_82 : Dec prog_12_method_3_code 82 (.dmul) 1 83 := ⟨by decide +kernel, rfl⟩
theorem f6_83 : Dec prog_12_method_3_code 83 (.dcmp .l) 1 84 := ⟨by decide +kernel, rfl⟩
theorem f6_84 : DecJ prog_12_method_3_code 84 (.ifCond .le 59) 59 143 87 := ⟨by decide +kernel, by decide, by decide, rfl⟩
theorem f6_87 : Dec prog_12_method_3_code 87 (.aload_n 0) 1 88 := ⟨by decide +kernel, rfl⟩
theorem f6_88 : Dec prog_12_method_3_code 88 (.getfield 13) 3 91 := ⟨by decide +kernel, rfl⟩
theorem f6_91 : Dec prog_12_method_3_code 91 (.iconst 2) 1 92 := ⟨by decide +kernel, rfl⟩
theorem f6_92 : Dec prog_12_method_3_code 92 (.iload 9) 2 94 := ⟨by decide +kernel, rfl⟩
theorem f6_94 : Dec prog_12_method_3_code 94 (.imul) 1 95 := ⟨by decide +kernel, rfl⟩
theorem f6_95 : Dec prog_12_method_3_code 95 (.dload 5) 2 97 := ⟨by decide +kernel, rfl⟩
theorem f6_97 : Dec prog_12_method_3_code 97 (.dastore) 1 98 := ⟨by decide +kernel, rfl⟩
theorem f6_98 : Dec prog_12_method_3_code 98 (.aload_n 0) 1 99 := ⟨by decide +kernel, rfl⟩
theorem f6_99 : Dec prog_12_method_3_code 99 (.getfield 13) 3 102 := ⟨by decide +kernel, rfl⟩
theorem f6_102 : Dec prog_12_method_3_code 102 (.iconst 2) 1 103 := ⟨by decide +kernel, rfl⟩
theorem f6_103 : Dec prog_12_method_3_code 103 (.iload 9) 2 105 := ⟨by decide +kernel, rfl⟩
theorem f6_105 : Dec prog_12_method_3_code 105 (.imul) 1 106 := ⟨by decide +kernel, rfl⟩
theorem f6_106 : Dec prog_12_method_3_code 106 (.iconst 1) 1 107 := ⟨by decide +kernel, rfl⟩
theorem f6_107 : Dec prog_12_method_3_code 107 (.iadd) 1 108 := ⟨by decide +kernel, rfl⟩
theorem f6_108 : Dec prog_12_method_3_code 108 (.dload 7) 2 110 := ⟨by decide +kernel, rfl⟩
theorem f6_110 : Dec prog_12_method_3_code 110 (.dastore) 1 111 := ⟨by decide +kernel, rfl⟩
theorem f6_111 : Dec prog_12_method_3_code 111 (.dload 13) 2 113 := ⟨by decide +kernel, rfl⟩
theorem f6_113 : Dec prog_12_method_3_code 113 (.dstore 5) 2 115 := ⟨by decide +kernel, rfl⟩
theorem f6_115 : Dec prog_12_method_3_code 115 (.dload 15) 2 117 := ⟨by decide +kernel, rfl⟩
theorem f6_117 : Dec prog_12_method_3_code 117 (.dstore 7) 2 119 := ⟨by decide +kernel, rfl⟩
theorem f6_119 : Dec prog_12_method_3_code 119 (.aload_n 0) 1 120 := ⟨by decide +kernel, rfl⟩
theorem f6_120 : Dec prog_12_method_3_code 120 (.getfield 13) 3 123 := ⟨by decide +kernel, rfl⟩
theorem f6_123 : Dec prog_12_method_3_code 123 (.iconst 2) 1 124 := ⟨by decide +kernel, rfl⟩
theorem f6_124 : Dec prog_12_method_3_code 124 (.iload 9) 2 126 := ⟨by decide +kernel, rfl⟩
theorem f6_126 : Dec prog_12_method_3_code 126 (.imul) 1 127 := ⟨by decide +kernel, rfl⟩
theorem f6_127 : Dec prog_12_method_3_code 127 (.daload) 1 128 := ⟨by decide +kernel, rfl⟩
theorem f6_128 : Dec prog_12_method_3_code 128 (.dstore 13) 2 130 := ⟨by decide +kernel, rfl⟩
theorem f6_130 : Dec prog_12_method_3_code 130 (.aload_n 0) 1 131 := ⟨by decide +kernel, rfl⟩
theorem f6_131 : Dec prog_12_method_3_code 131 (.getfield 13) 3 134 := ⟨by decide +kernel, rfl⟩
theorem f6_134 : Dec prog_12_method_3_code 134 (.iconst 2) 1 135 := ⟨by decide +kernel, rfl⟩
theorem f6_135 : Dec prog_12_method_3_code 135 (.iload 9) 2 137 := ⟨by decide +kernel, rfl⟩
theorem f6_137 : Dec prog_12_method_3_code 137 (.imul) 1 138 := ⟨by decide +kernel, rfl⟩
theorem f6_138 : Dec prog_12_method_3_code 138 (.iconst 1) 1 139 := ⟨by decide +kernel, rfl⟩
theorem f6_139 : Dec prog_12_method_3_code 139 (.iadd) 1 140 := ⟨by decide +kernel, rfl⟩
theorem f6_140 : Dec prog_12_method_3_code 140 (.daload) 1 141 := ⟨by decide +kernel, rfl⟩
theorem f6_141 : Dec prog_12_method_3_code 141 (.dstore 15) 2 143 := ⟨by decide +kernel, rfl⟩
theorem f6_143 : Dec prog_12_method_3_code 143 (.iload 10) 2 145 := ⟨by decide +kernel, rfl⟩
theorem f6_145 : Dec prog_12_method_3_code 145 (.iload 11) 2 147 := ⟨by decide +kernel, rfl⟩
theorem f6_147 : DecJ prog_12_method_3_code 147 (.if_icmp .ne 4) 4 151 150 := ⟨by decide +kernel, by decide, by decide, rfl⟩
theorem f6_150 : Dec prog_12_method_3_code 150 (.return_) 1 151 := ⟨by decide +kernel, rfl⟩
theorem f6_151 : Dec prog_12_method_3_code 151 (.dload 5) 2 153 := ⟨by decide +kernel, rfl⟩
theorem f6_153 : Dec prog_12_method_3_code 153 (.dload 13) 2 155 := ⟨by decide +kernel, rfl⟩
theorem f6_155 : Dec prog_12_method_3_code 155 (.dcmp .g) 1 156 := ⟨by decide +kernel, rfl⟩
theorem f6_156 : DecJ prog_12_method_3_code 156 (.ifCond .ge 8) 8 164 159 := ⟨by decide +kernel, by decide, by decide, rfl⟩
theorem f6_159 : Dec prog_12_method_3_code 159 (.iload 10) 2 161 := ⟨by decide +kernel, rfl⟩
theorem f6_161 : DecJ prog_12_method_3_code 161 (.goto 5) 5 166 164 := ⟨by decide +kernel, by decide, by decide, rfl⟩
theorem f6_164 : Dec prog_12_method_3_code 164 (.iload 11) 2 166 := ⟨by decide +kernel, rfl⟩
theorem f6_166 : Dec prog_12_method_3_code 166 (.istore 17) 2 168 := ⟨by decide +kernel, rfl⟩
theorem f6_168 : Dec prog_12_method_3_code 168 (.dload 5) 2 170 := ⟨by decide +kernel, rfl⟩
theorem f6_170 : Dec prog_12_method_3_code 170 (.aload_n 0) 1 171 := ⟨by decide +kernel, rfl⟩
theorem f6_171 : Dec prog_12_method_3_code 171 (.getfield 7) 3 174 := ⟨by decide +kernel, rfl⟩
theorem f6_174 : Dec prog_12_method_3_code 174 (.iload 17) 2 176 := ⟨by decide +kernel, rfl⟩
theorem f6_176 : Dec prog_12_method_3_code 176 (.daload) 1 177 := ⟨by decide +kernel, rfl⟩
theorem f6_177 : Dec prog_12_method_3_code 177 (.dload 7) 2 179 := ⟨by decide +kernel, rfl⟩
theorem f6_179 : Dec prog_12_method_3_code 179 (.dadd) 1 180 := ⟨by decide +kernel, rfl⟩
theorem f6_180 : Dec prog_12_method_3_code 180 (.dmul) 1 181 := ⟨by decide +kernel, rfl⟩
theorem f6_181 : Dec prog_12_method_3_code 181 (.dload 13) 2 183 := ⟨by decide +kernel, rfl⟩
theorem f6_183 : Dec prog_12_method_3_code 183 (.aload_n 0) 1 184 := ⟨by decide +kernel, rfl⟩
theorem f6_184 : Dec prog_12_method_3_code 184 (.getfield 7) 3 187 := ⟨by decide +kernel, rfl⟩
theorem f6_187 : Dec prog_12_method_3_code 187 (.iload 17) 2 189 := ⟨by decide +kernel, rfl⟩
theorem f6_189 : Dec prog_12_method_3_code 189 (.daload) 1 190 := ⟨by decide +kernel, rfl⟩
theorem f6_190 : Dec prog_12_method_3_code 190 (.dload 15) 2 192 := ⟨by decide +kernel, rfl⟩
theorem f6_192 : Dec prog_12_method_3_code 192 (.dadd) 1 193 := ⟨by decide +kernel, rfl⟩
theorem f6_193 : Dec prog_12_method_3_code 193 (.dmul) 1 194 := ⟨by decide +kernel, rfl⟩
theorem f6_194 : Dec prog_12_method_3_code 194 (.dcmp .l) 1 195 := ⟨by decide +kernel, rfl⟩
theorem f6_195 : DecJ prog_12_method_3_code 195 (.ifCond .gt 4) 4 199 198 := ⟨by decide +kernel, by decide, by decide, rfl⟩
theorem f6_198 : Dec prog_12_method_3_code 198 (.return_) 1 199 := ⟨by decide +kernel, rfl⟩
theorem f6_199 : Dec prog_12_method_3_code 199 (.dload 5) 2 201 := ⟨by decide +kernel, rfl⟩
theorem f6_201 : Dec prog_12_method_3_code 201 (.dload 13) 2 203 := ⟨by decide +kernel, rfl⟩
theorem f6_203 : Dec prog_12_method_3_code 203 (.dcmp .g) 1 204 := ⟨by decide +kernel, rfl⟩
theorem f6_204 : DecJ prog_12_method_3_code 204 (.ifCond .ge 16) 16 220 207 := ⟨by decide +kernel, by decide, by decide, rfl⟩
theorem f6_207 : Dec prog_12_method_3_code 207 (.iload 9) 2 209 := ⟨by decide +kernel, rfl⟩
theorem f6_209 : Dec prog_12_method_3_code 209 (.iconst 1) 1 210 := ⟨by decide +kernel, rfl⟩
theorem f6_210 : Dec prog_12_method_3_code 210 (.iadd) 1 211 := ⟨by decide +kernel, rfl⟩
theorem f6_211 : Dec prog_12_method_3_code 211 (.istore 9) 2 213 := ⟨by decide +kernel, rfl⟩
theorem f6_213 : Dec prog_12_method_3_code 213 (.iload 12) 2 215 := ⟨by decide +kernel, rfl⟩
theorem f6_215 : Dec prog_12_method_3_code 215 (.istore 11) 2 217 := ⟨by decide +kernel, rfl⟩
theorem f6_217 : DecJ prog_12_method_3_code 217 (.goto 23) 23 240 220 := ⟨by decide +kernel, by decide, by decide, rfl⟩
theorem f6_220 : Dec prog_12_method_3_code 220 (.iload 9) 2 222 := ⟨by decide +kernel, rfl⟩
theorem f6_222 : Dec prog_12_method_3_code 222 (.iconst 2) 1 223 := ⟨by decide +kernel, rfl⟩
theorem f6_223 : Dec prog_12_method_3_code 223 (.iload 12) 2 225 := ⟨by decide +kernel, rfl⟩
theorem f6_225 : Dec prog_12_method_3_code 225 (.iload 10) 2 227 := ⟨by decide +kernel, rfl⟩
theorem f6_227 : Dec prog_12_method_3_code 227 (.isub) 1 228 := ⟨by decide +kernel, rfl⟩
theorem f6_228 : Dec prog_12_method_3_code 228 (.iconst 1) 1 229 := ⟨by decide +kernel, rfl⟩
theorem f6_229 : Dec prog_12_method_3_code 229 (.iadd) 1 230 := ⟨by decide +kernel, rfl⟩
theorem f6_230 : Dec prog_12_method_3_code 230 (.imul) 1 231 := ⟨by decide +kernel, rfl⟩
theorem f6_231 : Dec prog_12_method_3_code 231 (.iadd) 1 232 := ⟨by decide +kernel, rfl⟩
theorem f6_232 : Dec prog_12_method_3_code 232 (.istore 9) 2 234 := ⟨by decide +kernel, rfl⟩
theorem f6_234 : Dec prog_12_method_3_code 234 (.iload 12) 2 236 := ⟨by decide +kernel, rfl⟩
theorem f6_236 : Dec prog_12_method_3_code 236 (.iconst 1) 1 237 := ⟨by decide +kernel, rfl⟩
theorem f6_237 : Dec prog_12_method_3_code 237 (.iadd) 1 238 := ⟨by decide +kernel, rfl⟩
theorem f6_238 : Dec prog_12_method_3_code 238 (.istore 10) 2 240 := ⟨by decide +kernel, rfl⟩
theorem f6_240 : DecJ prog_12_method_3_code 240 (.goto (-216)) (-216) 24 243 := ⟨by decide +kernel, by decide, by decide, rfl⟩
set_option maxRecDepth 65536 in
set_option maxHeartbeats 40000000 in
theorem own_loop {p : Program} {l : Launch} {e : Env} {R : Room} {s : State} {m : MethodId} {args : Array Value} {below : List Frame} {meth : Method} {c : Code} {Z : State} {a0 : Array Value} (C : Cur p l e s m meth c Z prog_12_method_3_code 18 "com/example/arbor_center/arborcenter/objective/UpperEnvelope" "add" none) (hw : ∀ d ∈ tables_1, d.before a0 Z = true) {a ph pl : Addr} {k1 k2 : ClassId} {hp : List Value} {P : Nat → Int} {k : Nat} {h0 : Heap} {n0 : Nat} (gpl : n0 ≤ pl) (na : a ≠ pl) (np : ph ≠ pl) (hP : own_Ps hp P k) (hmono : ∀ i j, i ≤ j → j < k → P i ≤ P j) (hk4 : k ≤ 4) {kC kS : Nat} :
    ∀ (f : Nat) {T0 : State} {locs : List Loc} {cells slots : Nat} {h : Heap} {ls : List Value} {W D : Nat → Int} {nd lo hi : Nat} {w d : Int} {u v wB dB : UInt64} {s12 s13 s14 s15 s16 s17 : Slot}, Stand p l e R s m args below meth c T0 locs cells slots → cells ≤ kC → slots ≤ kS → T0.heap = h → Fr n0 locs → Keep h0 h [pl] → Fld Z h a "com/example/arbor_center/arborcenter/objective/UpperEnvelope" "halfPoints" "[D" (.ref ph) → Fld Z h a "com/example/arbor_center/arborcenter/objective/UpperEnvelope" "lines" "[D" (.ref pl) → Arv Z h ph k1 .double (4 : Int32) hp (.double (0 : UInt64)) → Arv Z h pl k2 .double (14 : Int32) ls (.double (0 : UInt64)) → own_Ls ls W D → own_L w d u v → own_Sl s12 s13 s14 s15 s16 s17 → lo ≤ hi → hi < k → nd + (2 * (hi - lo + 1) - 1) ≤ 7 → hi - lo ≤ f →
      Go p e below s (own_QI Z pl k2 h0 n0 f nd lo hi P W D w d) kC kS T0 (mkF m 24 #[.val (.ref a), .val (.double wB), .second, .val (.double dB), .second, .val (.double u), .second, .val (.double v), .second, .val (.int (Int32.ofNat nd)), .val (.int (Int32.ofNat lo)), .val (.int (Int32.ofNat hi)), s12, s13, s14, s15, s16, s17] []) := by
  intro f
  induction f using Nat.strongRecOn with
  | _ f IH =>
    intro T0 locs cells slots h ls W D nd lo hi w d u v wB dB s12 s13 s14 s15 s16 s17 X0 hkC hkS e0 N0 K0 F1 F3 V1 V2 hL hl hs b1 b2 b3 b4
    obtain ⟨ku, ko, g1, g2, hkl⟩ := hL.2 nd (by omega)
    obtain ⟨pm, gm, hpm⟩ := hP.2 ((lo + hi) / 2) (by omega)
    obtain ⟨p1, gl, hpl⟩ := hP.2 lo (by omega)
    obtain ⟨p2, gh, hph⟩ := hP.2 hi (by omega)
    refine wiload C X0 f6_24 rfl ?_
    refine wiload C X0 f6_26 rfl ?_
    refine wiadd C X0 f6_28 ?_
    refine wiconst C X0 f6_29 (1 : Int32) rfl ?_
    refine wiushr C X0 f6_30 ?_
    refine own_foldI (z := (Int32.ofNat ((lo + hi) / 2))) (own_mid _ (by omega) _ (by omega)) ?_
    refine wistore C X0 f6_31 #[.val (.ref a), .val (.double wB), .second, .val (.double dB), .second, .val (.double u), .second, .val (.double v), .second, .val (.int (Int32.ofNat nd)), .val (.int (Int32.ofNat lo)), .val (.int (Int32.ofNat hi)), .val (.int (Int32.ofNat ((lo + hi) / 2))), s13, s14, s15, s16, s17] (by rcases hs with ⟨rfl, rfl, rfl, rfl, rfl, rfl⟩ | ⟨_, _, _, _, rfl, rfl, rfl, rfl, rfl, rfl⟩ <;> rfl) ?_
    refine waloadN C X0 f6_33 rfl rfl ?_
    refine wget C X0 (host := "") (Or.inl (tw_22 hw)) Via.refl e0 F3 f6_34 ?_
    intro T1 X1 e1
    refine wiconst C X1 f6_37 (2 : Int32) rfl ?_
    refine wiload C X1 f6_38 rfl ?_
    refine wimul C X1 f6_40 ?_
    refine own_foldI (z := (Int32.ofNat (2 * nd))) (own_n2 _ (by omega)) ?_
    refine wdaload C X1 e1 V2 f6_41 (own_ix14 _ (by omega)) (i := (2 * nd)) (own_cl _ (by omega)) (v := ku) g1 ?_
    refine wdstore C X1 f6_42 #[.val (.ref a), .val (.double wB), .second, .val (.double dB), .second, .val (.double u), .second, .val (.double v), .second, .val (.int (Int32.ofNat nd)), .val (.int (Int32.ofNat lo)), .val (.int (Int32.ofNat hi)), .val (.int (Int32.ofNat ((lo + hi) / 2))), .val (.double ku), .second, s15, s16, s17] (by rcases hs with ⟨rfl, rfl, rfl, rfl, rfl, rfl⟩ | ⟨_, _, _, _, rfl, rfl, rfl, rfl, rfl, rfl⟩ <;> rfl) ?_
    refine waloadN C X1 f6_44 rfl rfl ?_
    refine wget C X1 (host := "") (Or.inl (tw_22 hw)) Via.refl e1 F3 f6_45 ?_
    intro T2 X2 e2
    refine wiconst C X2 f6_48 (2 : Int32) rfl ?_
    refine wiload C X2 f6_49 rfl ?_
    refine wimul C X2 f6_51 ?_
    refine own_foldI (z := (Int32.ofNat (2 * nd))) (own_n2 _ (by omega)) ?_
    refine wiconst C X2 f6_52 (1 : Int32) rfl ?_
    refine wiadd C X2 f6_53 ?_
    refine own_foldI (z := (Int32.ofNat (2 * nd + 1))) (own_n1 _ (by omega)) ?_
    refine wdaload C X2 e2 V2 f6_54 (own_ix14 _ (by omega)) (i := (2 * nd + 1)) (own_cl _ (by omega)) (v := ko) g2 ?_
    refine wdstore C X2 f6_55 #[.val (.ref a), .val (.double wB), .second, .val (.double dB), .second, .val (.double u), .second, .val (.double v), .second, .val (.int (Int32.ofNat nd)), .val (.int (Int32.ofNat lo)), .val (.int (Int32.ofNat hi)), .val (.int (Int32.ofNat ((lo + hi) / 2))), .val (.double ku), .second, .val (.double ko), .second, s17] (by rcases hs with ⟨rfl, rfl, rfl, rfl, rfl, rfl⟩ | ⟨_, _, _, _, rfl, rfl, rfl, rfl, rfl, rfl⟩ <;> rfl) ?_
    refine wdload C X2 f6_57 rfl ?_
    refine waloadN C X2 f6_59 rfl rfl ?_
    refine wget C X2 (host := "") (Or.inl (tw_20 hw)) Via.refl e2 F1 f6_60 ?_
    intro T3 X3 e3
    refine wiload C X3 f6_63 rfl ?_
    refine wdaload C X3 e3 V1 f6_65 (own_ix4 _ (by omega)) (i := ((lo + hi) / 2)) (own_cl _ (by omega)) (v := pm) gm ?_
    refine wdload C X3 f6_66 rfl ?_
    refine wdadd C X3 f6_68 (v := (FP.dadd pm v)) rfl (own_H_nn (own_pd hpm hl)) ?_
    refine wdmul C X3 f6_69 (v := (FP.dmul u (FP.dadd pm v))) rfl (own_H_nn (own_lv hpm hl)) ?_
    refine wdload C X3 f6_70 rfl ?_
    refine waloadN C X3 f6_72 rfl rfl ?_
    refine wget C X3 (host := "") (Or.inl (tw_20 hw)) Via.refl e3 F1 f6_73 ?_
    intro T4 X4 e4
    refine wiload C X4 f6_76 rfl ?_
    refine wdaload C X4 e4 V1 f6_78 (own_ix4 _ (by omega)) (i := ((lo + hi) / 2)) (own_cl _ (by omega)) (v := pm) gm ?_
    refine wdload C X4 f6_79 rfl ?_
    refine wdadd C X4 f6_81 (v := (FP.dadd pm ko)) rfl (own_H_nn (own_pd hpm hkl)) ?_
    refine wdmul C X4 f6_82 (v := (FP.dmul ku (FP.dadd pm ko))) rfl (own_H_nn (own_lv hpm hkl)) ?_
    refine wdcmp C X4 f6_83 (v := (cmpValue (FP.dcmp (FP.dmul u (FP.dadd pm v)) (FP.dmul ku (FP.dadd pm ko))) .l)) rfl ?_
    refine wif_le C X4 f6_84 (fun hc84 => ?_) (fun hc84 => ?_)
    · refine waloadN C X4 f6_87 rfl rfl ?_
      refine wget C X4 (host := "") (Or.inl (tw_22 hw)) Via.refl e4 F3 f6_88 ?_
      intro T5 X5 e5
      refine wiconst C X5 f6_91 (2 : Int32) rfl ?_
      refine wiload C X5 f6_92 rfl ?_
      refine wimul C X5 f6_94 ?_
      refine own_foldI (z := (Int32.ofNat (2 * nd))) (own_n2 _ (by omega)) ?_
      refine wdload C X5 f6_95 rfl ?_
      refine wdastore C X5 e5 V2 f6_97 (own_ix14 _ (by omega)) (2 * nd) (own_cl _ (by omega)) (by rw [hL.1]; omega) (ls.set (2 * nd) (.double u)) rfl ?_
      intro T6 h6 sl6 w6 X6 e6 W6 V6
      have N6 := Fr.snoc X6 N0 gpl
      refine waloadN C X6 f6_98 rfl rfl ?_
      refine wget C X6 (host := "") (Or.inl (tw_22 hw)) Via.refl e6 (F3.other W6 (Or.inl na)) f6_99 ?_
      intro T7 X7 e7
      refine wiconst C X7 f6_102 (2 : Int32) rfl ?_
      refine wiload C X7 f6_103 rfl ?_
      refine wimul C X7 f6_105 ?_
      refine own_foldI (z := (Int32.ofNat (2 * nd))) (own_n2 _ (by omega)) ?_
      refine wiconst C X7 f6_106 (1 : Int32) rfl ?_
      refine wiadd C X7 f6_107 ?_
      refine own_foldI (z := (Int32.ofNat (2 * nd + 1))) (own_n1 _ (by omega)) ?_
      refine wdload C X7 f6_108 rfl ?_
      refine wdastore C X7 e7 V6 f6_110 (own_ix14 _ (by omega)) (2 * nd + 1) (own_cl _ (by omega)) (by rw [List.length_set, hL.1]; omega) ((ls.set (2 * nd) (.double u)).set (2 * nd + 1) (.double v)) rfl ?_
      intro T8 h8 sl8 w8 X8 e8 W8 V8
      have N8 := Fr.snoc X8 N6 gpl
      refine wdload C X8 f6_111 rfl ?_
      refine wdstore C X8 f6_113 #[.val (.ref a), .val (.double wB), .second, .val (.double dB), .second, .val (.double ku), .second, .val (.double v), .second, .val (.int (Int32.ofNat nd)), .val (.int (Int32.ofNat lo)), .val (.int (Int32.ofNat hi)), .val (.int (Int32.ofNat ((lo + hi) / 2))), .val (.double ku), .second, .val (.double ko), .second, s17] (by rcases hs with ⟨rfl, rfl, rfl, rfl, rfl, rfl⟩ | ⟨_, _, _, _, rfl, rfl, rfl, rfl, rfl, rfl⟩ <;> rfl) ?_
      refine wdload C X8 f6_115 rfl ?_
      refine wdstore C X8 f6_117 #[.val (.ref a), .val (.double wB), .second, .val (.double dB), .second, .val (.double ku), .second, .val (.double ko), .second, .val (.int (Int32.ofNat nd)), .val (.int (Int32.ofNat lo)), .val (.int (Int32.ofNat hi)), .val (.int (Int32.ofNat ((lo + hi) / 2))), .val (.double ku), .second, .val (.double ko), .second, s17] (by rcases hs with ⟨rfl, rfl, rfl, rfl, rfl, rfl⟩ | ⟨_, _, _, _, rfl, rfl, rfl, rfl, rfl, rfl⟩ <;> rfl) ?_
      refine waloadN C X8 f6_119 rfl rfl ?_
      refine wget C X8 (host := "") (Or.inl (tw_22 hw)) Via.refl e8 ((F3.other W6 (Or.inl na)).other W8 (Or.inl na)) f6_120 ?_
      intro T9 X9 e9
      refine wiconst C X9 f6_123 (2 : Int32) rfl ?_
      refine wiload C X9 f6_124 rfl ?_
      refine wimul C X9 f6_126 ?_
      refine own_foldI (z := (Int32.ofNat (2 * nd))) (own_n2 _ (by omega)) ?_
      refine wdaload C X9 e9 V8 f6_127 (own_ix14 _ (by omega)) (i := (2 * nd)) (own_cl _ (by omega)) (v := u) ((own_g_ne (by omega)).trans (own_g_same (by rw [hL.1]; omega))) ?_
      refine wdstore C X9 f6_128 #[.val (.ref a), .val (.double wB), .second, .val (.double dB), .second, .val (.double ku), .second, .val (.double ko), .second, .val (.int (Int32.ofNat nd)), .val (.int (Int32.ofNat lo)), .val (.int (Int32.ofNat hi)), .val (.int (Int32.ofNat ((lo + hi) / 2))), .val (.double u), .second, .val (.double ko), .second, s17] (by rcases hs with ⟨rfl, rfl, rfl, rfl, rfl, rfl⟩ | ⟨_, _, _, _, rfl, rfl, rfl, rfl, rfl, rfl⟩ <;> rfl) ?_
      refine waloadN C X9 f6_130 rfl rfl ?_
      refine wget C X9 (host := "") (Or.inl (tw_22 hw)) Via.refl e9 ((F3.other W6 (Or.inl na)).other W8 (Or.inl na)) f6_131 ?_
      intro T10 X10 e10
      refine wiconst C X10 f6_134 (2 : Int32) rfl ?_
      refine wiload C X10 f6_135 rfl ?_
      refine wimul C X10 f6_137 ?_
      refine own_foldI (z := (Int32.ofNat (2 * nd))) (own_n2 _ (by omega)) ?_
      refine wiconst C X10 f6_138 (1 : Int32) rfl ?_
      refine wiadd C X10 f6_139 ?_
      refine own_foldI (z := (Int32.ofNat (2 * nd + 1))) (own_n1 _ (by omega)) ?_
      refine wdaload C X10 e10 V8 f6_140 (own_ix14 _ (by omega)) (i := (2 * nd + 1)) (own_cl _ (by omega)) (v := v) (own_g_same (by rw [List.length_set, hL.1]; omega)) ?_
      refine wdstore C X10 f6_141 #[.val (.ref a), .val (.double wB), .second, .val (.double dB), .second, .val (.double ku), .second, .val (.double ko), .second, .val (.int (Int32.ofNat nd)), .val (.int (Int32.ofNat lo)), .val (.int (Int32.ofNat hi)), .val (.int (Int32.ofNat ((lo + hi) / 2))), .val (.double u), .second, .val (.double v), .second, s17] (by rcases hs with ⟨rfl, rfl, rfl, rfl, rfl, rfl⟩ | ⟨_, _, _, _, rfl, rfl, rfl, rfl, rfl, rfl⟩ <;> rfl) ?_
      refine wiload C X10 f6_143 rfl ?_
      refine wiload C X10 f6_145 rfl ?_
      refine wicmp_ne C X10 f6_147 (fun hc147 => ?_) (fun hc147 => ?_)
      · refine wret C X10 f6_150 rfl hkC hkS ?_
        have hm : (W nd) * (P ((lo + hi) / 2) + (D nd)) ≤ (own_upd W nd w) nd * (P ((lo + hi) / 2) + (own_upd D nd d) nd) := by
          have q := (own_H_gt (own_lv hpm hl) (own_lv hpm hkl) _).mp hc84; rw [own_upd_same, own_upd_same]; omega
        have q11 := ((K0.wr W6 (Or.inl (List.mem_of_getElem? (i := 0) rfl))).wr W8 (Or.inl (List.mem_of_getElem? (i := 0) rfl)))
        rw [e10]
        exact ⟨rfl, N8, q11, _, (own_upd W nd w), (own_upd D nd d), V8, (own_Ls_set hL (by omega) hl), (own_ins_swap b1 (own_ins_stop fun i a1 a2 => by have q := own_eqn _ (by omega) _ (by omega) hc147; have q2 : i = (lo + hi) / 2 := (by omega); subst q2; exact hm))⟩
      · refine wdload C X10 f6_151 rfl ?_
        refine wdload C X10 f6_153 rfl ?_
        refine wdcmp C X10 f6_155 (v := (cmpValue (FP.dcmp ku u) .g)) rfl ?_
        refine wif_ge C X10 f6_156 (fun hc156 => ?_) (fun hc156 => ?_)
        · refine wiload C X10 f6_159 rfl ?_
          refine wgoto C X10 f6_161 ?_
          refine wistore C X10 f6_166 #[.val (.ref a), .val (.double wB), .second, .val (.double dB), .second, .val (.double ku), .second, .val (.double ko), .second, .val (.int (Int32.ofNat nd)), .val (.int (Int32.ofNat lo)), .val (.int (Int32.ofNat hi)), .val (.int (Int32.ofNat ((lo + hi) / 2))), .val (.double u), .second, .val (.double v), .second, .val (.int (Int32.ofNat lo))] (by rcases hs with ⟨rfl, rfl, rfl, rfl, rfl, rfl⟩ | ⟨_, _, _, _, rfl, rfl, rfl, rfl, rfl, rfl⟩ <;> rfl) ?_
          refine wdload C X10 f6_168 rfl ?_
          refine waloadN C X10 f6_170 rfl rfl ?_
          refine wget C X10 (host := "") (Or.inl (tw_20 hw)) Via.refl e10 ((F1.other W6 (Or.inl na)).other W8 (Or.inl na)) f6_171 ?_
          intro T12 X12 e12
          refine wiload C X12 f6_174 rfl ?_
          refine wdaload C X12 e12 ((V1.other W6 np).other W8 np) f6_176 (own_ix4 _ (by omega)) (i := lo) (own_cl _ (by omega)) (v := p1) gl ?_
          refine wdload C X12 f6_177 rfl ?_
          refine wdadd C X12 f6_179 (v := (FP.dadd p1 ko)) rfl (own_H_nn (own_pd hpl hkl)) ?_
          refine wdmul C X12 f6_180 (v := (FP.dmul ku (FP.dadd p1 ko))) rfl (own_H_nn (own_lv hpl hkl)) ?_
          refine wdload C X12 f6_181 rfl ?_
          refine waloadN C X12 f6_183 rfl rfl ?_
          refine wget C X12 (host := "") (Or.inl (tw_20 hw)) Via.refl e12 ((F1.other W6 (Or.inl na)).other W8 (Or.inl na)) f6_184 ?_
          intro T13 X13 e13
          refine wiload C X13 f6_187 rfl ?_
          refine wdaload C X13 e13 ((V1.other W6 np).other W8 np) f6_189 (own_ix4 _ (by omega)) (i := lo) (own_cl _ (by omega)) (v := p1) gl ?_
          refine wdload C X13 f6_190 rfl ?_
          refine wdadd C X13 f6_192 (v := (FP.dadd p1 v)) rfl (own_H_nn (own_pd hpl hl)) ?_
          refine wdmul C X13 f6_193 (v := (FP.dmul u (FP.dadd p1 v))) rfl (own_H_nn (own_lv hpl hl)) ?_
          refine wdcmp C X13 f6_194 (v := (cmpValue (FP.dcmp (FP.dmul ku (FP.dadd p1 ko)) (FP.dmul u (FP.dadd p1 v))) .l)) rfl ?_
          refine wif_gt C X13 f6_195 (fun hc195 => ?_) (fun hc195 => ?_)
          · refine wdload C X13 f6_199 rfl ?_
            refine wdload C X13 f6_201 rfl ?_
            refine wdcmp C X13 f6_203 (v := (cmpValue (FP.dcmp ku u) .g)) rfl ?_
            refine wif_ge C X13 f6_204 ?_ (fun q => absurd hc156 q)
            intro _
            refine wiload C X13 f6_207 rfl ?_
            refine wiconst C X13 f6_209 (1 : Int32) rfl ?_
            refine wiadd C X13 f6_210 ?_
            refine own_foldI (z := (Int32.ofNat (nd + 1))) (own_n1 _ (by omega)) ?_
            refine wistore C X13 f6_211 #[.val (.ref a), .val (.double wB), .second, .val (.double dB), .second, .val (.double ku), .second, .val (.double ko), .second, .val (.int (Int32.ofNat (nd + 1))), .val (.int (Int32.ofNat lo)), .val (.int (Int32.ofNat hi)), .val (.int (Int32.ofNat ((lo + hi) / 2))), .val (.double u), .second, .val (.double v), .second, .val (.int (Int32.ofNat lo))] rfl ?_
            refine wiload C X13 f6_213 rfl ?_
            refine wistore C X13 f6_215 #[.val (.ref a), .val (.double wB), .second, .val (.double dB), .second, .val (.double ku), .second, .val (.double ko), .second, .val (.int (Int32.ofNat (nd + 1))), .val (.int (Int32.ofNat lo)), .val (.int (Int32.ofNat ((lo + hi) / 2))), .val (.int (Int32.ofNat ((lo + hi) / 2))), .val (.double u), .second, .val (.double v), .second, .val (.int (Int32.ofNat lo))] rfl ?_
            refine wgoto C X13 f6_217 ?_
            refine wgoto C X13 f6_240 ?_
            have hm : (W nd) * (P ((lo + hi) / 2) + (D nd)) ≤ (own_upd W nd w) nd * (P ((lo + hi) / 2) + (own_upd D nd d) nd) := by
              have q := (own_H_gt (own_lv hpm hl) (own_lv hpm hkl) _).mp hc84; rw [own_upd_same, own_upd_same]; omega
            have hwk : (own_upd W nd w) nd = w := own_upd_same _ _ _
            have hwl : (W nd) ≤ (own_upd W nd w) nd := by have q := (own_lt hkl.1 hl.1 _).mp hc156; rw [hwk]; omega
            have hne : lo ≠ hi := fun q => hc147 (by rw [q])
            obtain ⟨f', rfl⟩ : ∃ f', f = f' + 1 := ⟨f - 1, by omega⟩
            have q14 := ((K0.wr W6 (Or.inl (List.mem_of_getElem? (i := 0) rfl))).wr W8 (Or.inl (List.mem_of_getElem? (i := 0) rfl)))
            refine Go.mono (IH f' (by omega) X13 hkC hkS e13 N8 q14 ((F1.other W6 (Or.inl na)).other W8 (Or.inl na)) ((F3.other W6 (Or.inl na)).other W8 (Or.inl na)) ((V1.other W6 np).other W8 np) V8 (own_Ls_set hL (by omega) hl) hkl (Or.inr ⟨_, _, _, _, rfl, rfl, rfl, rfl, rfl, rfl⟩) (by omega) (by omega) (by omega) (by omega)) ?_
            intro v9 h9 L9 q9
            obtain ⟨r1, r2, r3, ls', W', D', r4, r5, r6⟩ := q9
            exact ⟨r1, r2, r3, ls', W', D', r4, r5, (own_ins_swap b1 (own_ins_left (by omega) (fun i a1 a2 => own_mono_lt hwl (hmono _ _ (by omega) (by omega)) hm) r6))⟩
          · refine wret C X13 f6_198 rfl hkC hkS ?_
            have hm : (W nd) * (P ((lo + hi) / 2) + (D nd)) ≤ (own_upd W nd w) nd * (P ((lo + hi) / 2) + (own_upd D nd d) nd) := by
              have q := (own_H_gt (own_lv hpm hl) (own_lv hpm hkl) _).mp hc84; rw [own_upd_same, own_upd_same]; omega
            have hwk : (own_upd W nd w) nd = w := own_upd_same _ _ _
            have hwl : (W nd) ≤ (own_upd W nd w) nd := by have q := (own_lt hkl.1 hl.1 _).mp hc156; rw [hwk]; omega
            have he : (W nd) * (P lo + (D nd)) ≤ (own_upd W nd w) nd * (P lo + (own_upd D nd d) nd) := by
              have q := mt (own_H_gt (own_lv hpl hkl) (own_lv hpl hl) _).mpr hc195; rw [own_upd_same, own_upd_same]; omega
            have q15 := ((K0.wr W6 (Or.inl (List.mem_of_getElem? (i := 0) rfl))).wr W8 (Or.inl (List.mem_of_getElem? (i := 0) rfl)))
            rw [e13]
            exact ⟨rfl, N8, q15, _, (own_upd W nd w), (own_upd D nd d), V8, (own_Ls_set hL (by omega) hl), (own_ins_swap b1 (own_ins_stop fun i a1 a2 => own_mono_lt hwl (hmono _ _ a1 (by omega)) he))⟩
        · refine wiload C X10 f6_164 rfl ?_
          refine wistore C X10 f6_166 #[.val (.ref a), .val (.double wB), .second, .val (.double dB), .second, .val (.double ku), .second, .val (.double ko), .second, .val (.int (Int32.ofNat nd)), .val (.int (Int32.ofNat lo)), .val (.int (Int32.ofNat hi)), .val (.int (Int32.ofNat ((lo + hi) / 2))), .val (.double u), .second, .val (.double v), .second, .val (.int (Int32.ofNat hi))] (by rcases hs with ⟨rfl, rfl, rfl, rfl, rfl, rfl⟩ | ⟨_, _, _, _, rfl, rfl, rfl, rfl, rfl, rfl⟩ <;> rfl) ?_
          refine wdload C X10 f6_168 rfl ?_
          refine waloadN C X10 f6_170 rfl rfl ?_
          refine wget C X10 (host := "") (Or.inl (tw_20 hw)) Via.refl e10 ((F1.other W6 (Or.inl na)).other W8 (Or.inl na)) f6_171 ?_
          intro T16 X16 e16
          refine wiload C X16 f6_174 rfl ?_
          refine wdaload C X16 e16 ((V1.other W6 np).other W8 np) f6_176 (own_ix4 _ (by omega)) (i := hi) (own_cl _ (by omega)) (v := p2) gh ?_
          refine wdload C X16 f6_177 rfl ?_
          refine wdadd C X16 f6_179 (v := (FP.dadd p2 ko)) rfl (own_H_nn (own_pd hph hkl)) ?_
          refine wdmul C X16 f6_180 (v := (FP.dmul ku (FP.dadd p2 ko))) rfl (own_H_nn (own_lv hph hkl)) ?_
          refine wdload C X16 f6_181 rfl ?_
          refine waloadN C X16 f6_183 rfl rfl ?_
          refine wget C X16 (host := "") (Or.inl (tw_20 hw)) Via.refl e16 ((F1.other W6 (Or.inl na)).other W8 (Or.inl na)) f6_184 ?_
          intro T17 X17 e17
          refine wiload C X17 f6_187 rfl ?_
          refine wdaload C X17 e17 ((V1.other W6 np).other W8 np) f6_189 (own_ix4 _ (by omega)) (i := hi) (own_cl _ (by omega)) (v := p2) gh ?_
          refine wdload C X17 f6_190 rfl ?_
          refine wdadd C X17 f6_192 (v := (FP.dadd p2 v)) rfl (own_H_nn (own_pd hph hl)) ?_
          refine wdmul C X17 f6_193 (v := (FP.dmul u (FP.dadd p2 v))) rfl (own_H_nn (own_lv hph hl)) ?_
          refine wdcmp C X17 f6_194 (v := (cmpValue (FP.dcmp (FP.dmul ku (FP.dadd p2 ko)) (FP.dmul u (FP.dadd p2 v))) .l)) rfl ?_
          refine wif_gt C X17 f6_195 (fun hc195 => ?_) (fun hc195 => ?_)
          · refine wdload C X17 f6_199 rfl ?_
            refine wdload C X17 f6_201 rfl ?_
            refine wdcmp C X17 f6_203 (v := (cmpValue (FP.dcmp ku u) .g)) rfl ?_
            refine wif_ge C X17 f6_204 (fun q => absurd q hc156) ?_
            intro _
            refine wiload C X17 f6_220 rfl ?_
            refine wiconst C X17 f6_222 (2 : Int32) rfl ?_
            refine wiload C X17 f6_223 rfl ?_
            refine wiload C X17 f6_225 rfl ?_
            refine wisub C X17 f6_227 ?_
            refine wiconst C X17 f6_228 (1 : Int32) rfl ?_
            refine wiadd C X17 f6_229 ?_
            refine wimul C X17 f6_230 ?_
            refine wiadd C X17 f6_231 ?_
            refine own_foldI (z := (Int32.ofNat (nd + 2 * ((lo + hi) / 2 - lo + 1)))) (own_nr _ (by omega) _ (by omega) _ (by omega)) ?_
            refine wistore C X17 f6_232 #[.val (.ref a), .val (.double wB), .second, .val (.double dB), .second, .val (.double ku), .second, .val (.double ko), .second, .val (.int (Int32.ofNat (nd + 2 * ((lo + hi) / 2 - lo + 1)))), .val (.int (Int32.ofNat lo)), .val (.int (Int32.ofNat hi)), .val (.int (Int32.ofNat ((lo + hi) / 2))), .val (.double u), .second, .val (.double v), .second, .val (.int (Int32.ofNat hi))] rfl ?_
            refine wiload C X17 f6_234 rfl ?_
            refine wiconst C X17 f6_236 (1 : Int32) rfl ?_
            refine wiadd C X17 f6_237 ?_
            refine own_foldI (z := (Int32.ofNat ((lo + hi) / 2 + 1))) (own_n1 _ (by omega)) ?_
            refine wistore C X17 f6_238 #[.val (.ref a), .val (.double wB), .second, .val (.double dB), .second, .val (.double ku), .second, .val (.double ko), .second, .val (.int (Int32.ofNat (nd + 2 * ((lo + hi) / 2 - lo + 1)))), .val (.int (Int32.ofNat ((lo + hi) / 2 + 1))), .val (.int (Int32.ofNat hi)), .val (.int (Int32.ofNat ((lo + hi) / 2))), .val (.double u), .second, .val (.double v), .second, .val (.int (Int32.ofNat hi))] rfl ?_
            refine wgoto C X17 f6_240 ?_
            have hm : (W nd) * (P ((lo + hi) / 2) + (D nd)) ≤ (own_upd W nd w) nd * (P ((lo + hi) / 2) + (own_upd D nd d) nd) := by
              have q := (own_H_gt (own_lv hpm hl) (own_lv hpm hkl) _).mp hc84; rw [own_upd_same, own_upd_same]; omega
            have hwk : (own_upd W nd w) nd = w := own_upd_same _ _ _
            have hwl : (own_upd W nd w) nd ≤ (W nd) := by have q := mt (own_lt hkl.1 hl.1 _).mpr hc156; rw [hwk]; omega
            have hne : lo ≠ hi := fun q => hc147 (by rw [q])
            obtain ⟨f', rfl⟩ : ∃ f', f = f' + 1 := ⟨f - 1, by omega⟩
            have q18 := ((K0.wr W6 (Or.inl (List.mem_of_getElem? (i := 0) rfl))).wr W8 (Or.inl (List.mem_of_getElem? (i := 0) rfl)))
            refine Go.mono (IH f' (by omega) X17 hkC hkS e17 N8 q18 ((F1.other W6 (Or.inl na)).other W8 (Or.inl na)) ((F3.other W6 (Or.inl na)).other W8 (Or.inl na)) ((V1.other W6 np).other W8 np) V8 (own_Ls_set hL (by omega) hl) hkl (Or.inr ⟨_, _, _, _, rfl, rfl, rfl, rfl, rfl, rfl⟩) (by omega) (by omega) (by omega) (by omega)) ?_
            intro v9 h9 L9 q9
            obtain ⟨r1, r2, r3, ls', W', D', r4, r5, r6⟩ := q9
            exact ⟨r1, r2, r3, ls', W', D', r4, r5, (own_ins_swap b1 (own_ins_right (by omega) (fun i a1 a2 => own_mono_gt hwl (hmono _ _ a2 (by omega)) hm) r6))⟩
          · refine wret C X17 f6_198 rfl hkC hkS ?_
            have hm : (W nd) * (P ((lo + hi) / 2) + (D nd)) ≤ (own_upd W nd w) nd * (P ((lo + hi) / 2) + (own_upd D nd d) nd) := by
              have q := (own_H_gt (own_lv hpm hl) (own_lv hpm hkl) _).mp hc84; rw [own_upd_same, own_upd_same]; omega
            have hwk : (own_upd W nd w) nd = w := own_upd_same _ _ _
            have hwl : (own_upd W nd w) nd ≤ (W nd) := by have q := mt (own_lt hkl.1 hl.1 _).mpr hc156; rw [hwk]; omega
            have he : (W nd) * (P hi + (D nd)) ≤ (own_upd W nd w) nd * (P hi + (own_upd D nd d) nd) := by
              have q := mt (own_H_gt (own_lv hph hkl) (own_lv hph hl) _).mpr hc195; rw [own_upd_same, own_upd_same]; omega
            have q19 := ((K0.wr W6 (Or.inl (List.mem_of_getElem? (i := 0) rfl))).wr W8 (Or.inl (List.mem_of_getElem? (i := 0) rfl)))
            rw [e17]
            exact ⟨rfl, N8, q19, _, (own_upd W nd w), (own_upd D nd d), V8, (own_Ls_set hL (by omega) hl), (own_ins_swap b1 (own_ins_stop fun i a1 a2 => own_mono_gt hwl (hmono _ _ a2 (by omega)) he))⟩
    · refine wiload C X4 f6_143 rfl ?_
      refine wiload C X4 f6_145 rfl ?_
      refine wicmp_ne C X4 f6_147 (fun hc147 => ?_) (fun hc147 => ?_)
      · refine wret C X4 f6_150 rfl hkC hkS ?_
        have hm : w * (P ((lo + hi) / 2) + d) ≤ W nd * (P ((lo + hi) / 2) + D nd) := by
          have q := mt (own_H_gt (own_lv hpm hl) (own_lv hpm hkl) _).mpr hc84; omega
        rw [e4]
        exact ⟨rfl, N0, K0, _, W, D, V2, hL, (own_ins_stop fun i a1 a2 => by have q := own_eqn _ (by omega) _ (by omega) hc147; have q2 : i = (lo + hi) / 2 := (by omega); subst q2; exact hm)⟩
      · refine wdload C X4 f6_151 rfl ?_
        refine wdload C X4 f6_153 rfl ?_
        refine wdcmp C X4 f6_155 (v := (cmpValue (FP.dcmp u ku) .g)) rfl ?_
        refine wif_ge C X4 f6_156 (fun hc156 => ?_) (fun hc156 => ?_)
        · refine wiload C X4 f6_159 rfl ?_
          refine wgoto C X4 f6_161 ?_
          refine wistore C X4 f6_166 #[.val (.ref a), .val (.double wB), .second, .val (.double dB), .second, .val (.double u), .second, .val (.double v), .second, .val (.int (Int32.ofNat nd)), .val (.int (Int32.ofNat lo)), .val (.int (Int32.ofNat hi)), .val (.int (Int32.ofNat ((lo + hi) / 2))), .val (.double ku), .second, .val (.double ko), .second, .val (.int (Int32.ofNat lo))] (by rcases hs with ⟨rfl, rfl, rfl, rfl, rfl, rfl⟩ | ⟨_, _, _, _, rfl, rfl, rfl, rfl, rfl, rfl⟩ <;> rfl) ?_
          refine wdload C X4 f6_168 rfl ?_
          refine waloadN C X4 f6_170 rfl rfl ?_
          refine wget C X4 (host := "") (Or.inl (tw_20 hw)) Via.refl e4 F1 f6_171 ?_
          intro T20 X20 e20
          refine wiload C X20 f6_174 rfl ?_
          refine wdaload C X20 e20 V1 f6_176 (own_ix4 _ (by omega)) (i := lo) (own_cl _ (by omega)) (v := p1) gl ?_
          refine wdload C X20 f6_177 rfl ?_
          refine wdadd C X20 f6_179 (v := (FP.dadd p1 v)) rfl (own_H_nn (own_pd hpl hl)) ?_
          refine wdmul C X20 f6_180 (v := (FP.dmul u (FP.dadd p1 v))) rfl (own_H_nn (own_lv hpl hl)) ?_
          refine wdload C X20 f6_181 rfl ?_
          refine waloadN C X20 f6_183 rfl rfl ?_
          refine wget C X20 (host := "") (Or.inl (tw_20 hw)) Via.refl e20 F1 f6_184 ?_
          intro T21 X21 e21
          refine wiload C X21 f6_187 rfl ?_
          refine wdaload C X21 e21 V1 f6_189 (own_ix4 _ (by omega)) (i := lo) (own_cl _ (by omega)) (v := p1) gl ?_
          refine wdload C X21 f6_190 rfl ?_
          refine wdadd C X21 f6_192 (v := (FP.dadd p1 ko)) rfl (own_H_nn (own_pd hpl hkl)) ?_
          refine wdmul C X21 f6_193 (v := (FP.dmul ku (FP.dadd p1 ko))) rfl (own_H_nn (own_lv hpl hkl)) ?_
          refine wdcmp C X21 f6_194 (v := (cmpValue (FP.dcmp (FP.dmul u (FP.dadd p1 v)) (FP.dmul ku (FP.dadd p1 ko))) .l)) rfl ?_
          refine wif_gt C X21 f6_195 (fun hc195 => ?_) (fun hc195 => ?_)
          · refine wdload C X21 f6_199 rfl ?_
            refine wdload C X21 f6_201 rfl ?_
            refine wdcmp C X21 f6_203 (v := (cmpValue (FP.dcmp u ku) .g)) rfl ?_
            refine wif_ge C X21 f6_204 ?_ (fun q => absurd hc156 q)
            intro _
            refine wiload C X21 f6_207 rfl ?_
            refine wiconst C X21 f6_209 (1 : Int32) rfl ?_
            refine wiadd C X21 f6_210 ?_
            refine own_foldI (z := (Int32.ofNat (nd + 1))) (own_n1 _ (by omega)) ?_
            refine wistore C X21 f6_211 #[.val (.ref a), .val (.double wB), .second, .val (.double dB), .second, .val (.double u), .second, .val (.double v), .second, .val (.int (Int32.ofNat (nd + 1))), .val (.int (Int32.ofNat lo)), .val (.int (Int32.ofNat hi)), .val (.int (Int32.ofNat ((lo + hi) / 2))), .val (.double ku), .second, .val (.double ko), .second, .val (.int (Int32.ofNat lo))] rfl ?_
            refine wiload C X21 f6_213 rfl ?_
            refine wistore C X21 f6_215 #[.val (.ref a), .val (.double wB), .second, .val (.double dB), .second, .val (.double u), .second, .val (.double v), .second, .val (.int (Int32.ofNat (nd + 1))), .val (.int (Int32.ofNat lo)), .val (.int (Int32.ofNat ((lo + hi) / 2))), .val (.int (Int32.ofNat ((lo + hi) / 2))), .val (.double ku), .second, .val (.double ko), .second, .val (.int (Int32.ofNat lo))] rfl ?_
            refine wgoto C X21 f6_217 ?_
            refine wgoto C X21 f6_240 ?_
            have hm : w * (P ((lo + hi) / 2) + d) ≤ W nd * (P ((lo + hi) / 2) + D nd) := by
              have q := mt (own_H_gt (own_lv hpm hl) (own_lv hpm hkl) _).mpr hc84; omega
            have hwk : W nd = W nd := rfl
            have hwl : w ≤ W nd := by have q := (own_lt hl.1 hkl.1 _).mp hc156; rw [hwk]; omega
            have hne : lo ≠ hi := fun q => hc147 (by rw [q])
            obtain ⟨f', rfl⟩ : ∃ f', f = f' + 1 := ⟨f - 1, by omega⟩
            refine Go.mono (IH f' (by omega) X21 hkC hkS e21 N0 K0 F1 F3 V1 V2 hL hl (Or.inr ⟨_, _, _, _, rfl, rfl, rfl, rfl, rfl, rfl⟩) (by omega) (by omega) (by omega) (by omega)) ?_
            intro v9 h9 L9 q9
            obtain ⟨r1, r2, r3, ls', W', D', r4, r5, r6⟩ := q9
            exact ⟨r1, r2, r3, ls', W', D', r4, r5, (own_ins_left (by omega) (fun i a1 a2 => own_mono_lt hwl (hmono _ _ (by omega) (by omega)) hm) r6)⟩
          · refine wret C X21 f6_198 rfl hkC hkS ?_
            have hm : w * (P ((lo + hi) / 2) + d) ≤ W nd * (P ((lo + hi) / 2) + D nd) := by
              have q := mt (own_H_gt (own_lv hpm hl) (own_lv hpm hkl) _).mpr hc84; omega
            have hwk : W nd = W nd := rfl
            have hwl : w ≤ W nd := by have q := (own_lt hl.1 hkl.1 _).mp hc156; rw [hwk]; omega
            have he : w * (P lo + d) ≤ W nd * (P lo + D nd) := by
              have q := mt (own_H_gt (own_lv hpl hl) (own_lv hpl hkl) _).mpr hc195; omega
            rw [e21]
            exact ⟨rfl, N0, K0, _, W, D, V2, hL, (own_ins_stop fun i a1 a2 => own_mono_lt hwl (hmono _ _ a1 (by omega)) he)⟩
        · refine wiload C X4 f6_164 rfl ?_
          refine wistore C X4 f6_166 #[.val (.ref a), .val (.double wB), .second, .val (.double dB), .second, .val (.double u), .second, .val (.double v), .second, .val (.int (Int32.ofNat nd)), .val (.int (Int32.ofNat lo)), .val (.int (Int32.ofNat hi)), .val (.int (Int32.ofNat ((lo + hi) / 2))), .val (.double ku), .second, .val (.double ko), .second, .val (.int (Int32.ofNat hi))] (by rcases hs with ⟨rfl, rfl, rfl, rfl, rfl, rfl⟩ | ⟨_, _, _, _, rfl, rfl, rfl, rfl, rfl, rfl⟩ <;> rfl) ?_
          refine wdload C X4 f6_168 rfl ?_
          refine waloadN C X4 f6_170 rfl rfl ?_
          refine wget C X4 (host := "") (Or.inl (tw_20 hw)) Via.refl e4 F1 f6_171 ?_
          intro T22 X22 e22
          refine wiload C X22 f6_174 rfl ?_
          refine wdaload C X22 e22 V1 f6_176 (own_ix4 _ (by omega)) (i := hi) (own_cl _ (by omega)) (v := p2) gh ?_
          refine wdload C X22 f6_177 rfl ?_
          refine wdadd C X22 f6_179 (v := (FP.dadd p2 v)) rfl (own_H_nn (own_pd hph hl)) ?_
          refine wdmul C X22 f6_180 (v := (FP.dmul u (FP.dadd p2 v))) rfl (own_H_nn (own_lv hph hl)) ?_
          refine wdload C X22 f6_181 rfl ?_
          refine waloadN C X22 f6_183 rfl rfl ?_
          refine wget C X22 (host := "") (Or.inl (tw_20 hw)) Via.refl e22 F1 f6_184 ?_
          intro T23 X23 e23
          refine wiload C X23 f6_187 rfl ?_
          refine wdaload C X23 e23 V1 f6_189 (own_ix4 _ (by omega)) (i := hi) (own_cl _ (by omega)) (v := p2) gh ?_
          refine wdload C X23 f6_190 rfl ?_
          refine wdadd C X23 f6_192 (v := (FP.dadd p2 ko)) rfl (own_H_nn (own_pd hph hkl)) ?_
          refine wdmul C X23 f6_193 (v := (FP.dmul ku (FP.dadd p2 ko))) rfl (own_H_nn (own_lv hph hkl)) ?_
          refine wdcmp C X23 f6_194 (v := (cmpValue (FP.dcmp (FP.dmul u (FP.dadd p2 v)) (FP.dmul ku (FP.dadd p2 ko))) .l)) rfl ?_
          refine wif_gt C X23 f6_195 (fun hc195 => ?_) (fun hc195 => ?_)
          · refine wdload C X23 f6_199 rfl ?_
            refine wdload C X23 f6_201 rfl ?_
            refine wdcmp C X23 f6_203 (v := (cmpValue (FP.dcmp u ku) .g)) rfl ?_
            refine wif_ge C X23 f6_204 (fun q => absurd q hc156) ?_
            intro _
            refine wiload C X23 f6_220 rfl ?_
            refine wiconst C X23 f6_222 (2 : Int32) rfl ?_
            refine wiload C X23 f6_223 rfl ?_
            refine wiload C X23 f6_225 rfl ?_
            refine wisub C X23 f6_227 ?_
            refine wiconst C X23 f6_228 (1 : Int32) rfl ?_
            refine wiadd C X23 f6_229 ?_
            refine wimul C X23 f6_230 ?_
            refine wiadd C X23 f6_231 ?_
            refine own_foldI (z := (Int32.ofNat (nd + 2 * ((lo + hi) / 2 - lo + 1)))) (own_nr _ (by omega) _ (by omega) _ (by omega)) ?_
            refine wistore C X23 f6_232 #[.val (.ref a), .val (.double wB), .second, .val (.double dB), .second, .val (.double u), .second, .val (.double v), .second, .val (.int (Int32.ofNat (nd + 2 * ((lo + hi) / 2 - lo + 1)))), .val (.int (Int32.ofNat lo)), .val (.int (Int32.ofNat hi)), .val (.int (Int32.ofNat ((lo + hi) / 2))), .val (.double ku), .second, .val (.double ko), .second, .val (.int (Int32.ofNat hi))] rfl ?_
            refine wiload C X23 f6_234 rfl ?_
            refine wiconst C X23 f6_236 (1 : Int32) rfl ?_
            refine wiadd C X23 f6_237 ?_
            refine own_foldI (z := (Int32.ofNat ((lo + hi) / 2 + 1))) (own_n1 _ (by omega)) ?_
            refine wistore C X23 f6_238 #[.val (.ref a), .val (.double wB), .second, .val (.double dB), .second, .val (.double u), .second, .val (.double v), .second, .val (.int (Int32.ofNat (nd + 2 * ((lo + hi) / 2 - lo + 1)))), .val (.int (Int32.ofNat ((lo + hi) / 2 + 1))), .val (.int (Int32.ofNat hi)), .val (.int (Int32.ofNat ((lo + hi) / 2))), .val (.double ku), .second, .val (.double ko), .second, .val (.int (Int32.ofNat hi))] rfl ?_
            refine wgoto C X23 f6_240 ?_
            have hm : w * (P ((lo + hi) / 2) + d) ≤ W nd * (P ((lo + hi) / 2) + D nd) := by
              have q := mt (own_H_gt (own_lv hpm hl) (own_lv hpm hkl) _).mpr hc84; omega
            have hwk : W nd = W nd := rfl
            have hwl : W nd ≤ w := by have q := mt (own_lt hl.1 hkl.1 _).mpr hc156; rw [hwk]; omega
            have hne : lo ≠ hi := fun q => hc147 (by rw [q])
            obtain ⟨f', rfl⟩ : ∃ f', f = f' + 1 := ⟨f - 1, by omega⟩
            refine Go.mono (IH f' (by omega) X23 hkC hkS e23 N0 K0 F1 F3 V1 V2 hL hl (Or.inr ⟨_, _, _, _, rfl, rfl, rfl, rfl, rfl, rfl⟩) (by omega) (by omega) (by omega) (by omega)) ?_
            intro v9 h9 L9 q9
            obtain ⟨r1, r2, r3, ls', W', D', r4, r5, r6⟩ := q9
            exact ⟨r1, r2, r3, ls', W', D', r4, r5, (own_ins_right (by omega) (fun i a1 a2 => own_mono_gt hwl (hmono _ _ a2 (by omega)) hm) r6)⟩
          · refine wret C X23 f6_198 rfl hkC hkS ?_
            have hm : w * (P ((lo + hi) / 2) + d) ≤ W nd * (P ((lo + hi) / 2) + D nd) := by
              have q := mt (own_H_gt (own_lv hpm hl) (own_lv hpm hkl) _).mpr hc84; omega
            have hwk : W nd = W nd := rfl
            have hwl : W nd ≤ w := by have q := mt (own_lt hl.1 hkl.1 _).mpr hc156; rw [hwk]; omega
            have he : w * (P hi + d) ≤ W nd * (P hi + D nd) := by
              have q := mt (own_H_gt (own_lv hph hl) (own_lv hph hkl) _).mpr hc195; omega
            rw [e23]
            exact ⟨rfl, N0, K0, _, W, D, V2, hL, (own_ins_stop fun i a1 a2 => own_mono_gt hwl (hmono _ _ a2 (by omega)) he)⟩
theorem own_k1 : ∀ k, k < 5 → 1 ≤ k → Int32.ofNat k - (1 : Int32) = Int32.ofNat (k - 1) := by decide
theorem f6_0 : Dec prog_12_method_3_code 0 (.dload_n 1) 1 1 := ⟨by decide +kernel, rfl⟩
theorem f6_1 : Dec prog_12_method_3_code 1 (.dstore 5) 2 3 := ⟨by decide +kernel, rfl⟩
theorem f6_3 : Dec prog_12_method_3_code 3 (.dload_n 3) 1 4 := ⟨by decide +kernel, rfl⟩
theorem f6_4 : Dec prog_12_method_3_code 4 (.ldc2_w 20) 3 7 := ⟨by decide +kernel, rfl⟩
theorem f6_7 : Dec prog_12_method_3_code 7 (.ddiv) 1 8 := ⟨by decide +kernel, rfl⟩
theorem f6_8 : Dec prog_12_method_3_code 8 (.dstore 7) 2 10 := ⟨by decide +kernel, rfl⟩
theorem f6_10 : Dec prog_12_method_3_code 10 (.iconst 0) 1 11 := ⟨by decide +kernel, rfl⟩
theorem f6_11 : Dec prog_12_method_3_code 11 (.istore 9) 2 13 := ⟨by decide +kernel, rfl⟩
theorem f6_13 : Dec prog_12_method_3_code 13 (.iconst 0) 1 14 := ⟨by decide +kernel, rfl⟩
theorem f6_14 : Dec prog_12_method_3_code 14 (.istore 10) 2 16 := ⟨by decide +kernel, rfl⟩
theorem f6_16 : Dec prog_12_method_3_code 16 (.aload_n 0) 1 17 := ⟨by decide +kernel, rfl⟩
theorem f6_17 : Dec prog_12_method_3_code 17 (.getfield 16) 3 20 := ⟨by decide +kernel, rfl⟩
theorem f6_20 : Dec prog_12_method_3_code 20 (.iconst 1) 1 21 := ⟨by decide +kernel, rfl⟩
theorem f6_21 : Dec prog_12_method_3_code 21 (.isub) 1 22 := ⟨by decide +kernel, rfl⟩
theorem f6_22 : Dec prog_12_method_3_code 22 (.istore 11) 2 24 := ⟨by decide +kernel, rfl⟩
theorem pn_6 : plainFor (⟨"com/example/arbor_center/arborcenter/objective/UpperEnvelope", "add", "(DD)V"⟩ : MethodName) = true := plainFor_of_name (show plainName "com/example/arbor_center/arborcenter/objective/UpperEnvelope" = true by first | (simp [plainName, overriddenIn]; done) | decide +kernel)
theorem ef_6 (m : MethodId) (a : Addr) (wB : UInt64) (dB : UInt64) : entryFrame m #[(.ref a), (.double wB), (.double dB)] 18 = mkF m 0 #[.val (.ref a), .val (.double wB), .second, .val (.double dB), .second, .unset, .unset, .unset, .unset, .unset, .unset, .unset, .unset, .unset, .unset, .unset, .unset, .unset] [] := by first | (simp [entryFrame, mkF, argsToLocals, Value.category]; done) | rfl
def Q6 (Z : State) (a : Addr) (wB : UInt64) (dB : UInt64) (ph : Addr) (pl : Addr) (k1 : ClassId) (k2 : ClassId) (k : Nat) (hp : List Value) (ls : List Value) (P : Nat → Int) (W : Nat → Int) (D : Nat → Int) (w : Int) (d : Int) (h0 : Heap) (n0 : Nat) (v9 : Option Value) (h9 : Heap) (L9 : List Loc) : Prop := ∃ (ls' : List Value), ∃ (W' : Nat → Int), ∃ (D' : Nat → Int), v9 = none ∧ Fr n0 L9 ∧ Keep h0 h9 [pl] ∧ Arv Z h9 pl k2 .double (14 : Int32) ls' (.double (0 : UInt64)) ∧ (own_Ls ls' W' D') ∧ (∀ i, i < k → own_pm 3 0 0 (k - 1) W' D' (P i) i = max (own_pm 3 0 0 (k - 1) W D (P i) i) (w * (P i + d)))
set_option maxRecDepth 65536 in
set_option maxHeartbeats 40000000 in
theorem rm6 (l : Launch) (Z : State) (a0 : Array Value) (hw : ∀ d ∈ tables_1, d.before a0 Z = true) (ws : List Jvm.Cond) (a : Addr) (wB : UInt64) (dB : UInt64) (ph : Addr) (pl : Addr) (k1 : ClassId) (k2 : ClassId) (k : Nat) (hp : List Value) (ls : List Value) (P : Nat → Int) (W : Nat → Int) (D : Nat → Int) (w : Int) (d : Int) (h0 : Heap) (n0 : Nat) (Z0 : n0 ≤ h0.size) (Fld_0 : Fld Z h0 a "com/example/arbor_center/arborcenter/objective/UpperEnvelope" "halfPoints" "[D" (.ref ph)) (Fld_1 : Fld Z h0 a "com/example/arbor_center/arborcenter/objective/UpperEnvelope" "count" "I" (.int (Int32.ofNat k))) (Fld_2 : Fld Z h0 a "com/example/arbor_center/arborcenter/objective/UpperEnvelope" "lines" "[D" (.ref pl)) (Arv_3 : Arv Z h0 ph k1 .double (4 : Int32) hp (.double (0 : UInt64))) (Arv_4 : Arv Z h0 pl k2 .double (14 : Int32) ls (.double (0 : UInt64))) (ge_5 : n0 ≤ pl) (ne_6 : a ≠ pl) (ne_7 : ph ≠ pl) (hL : (own_Ls ls W D)) (hP : (own_Ps hp P k)) (hmono : (∀ i j, i ≤ j → j < k → P i ≤ P j)) (hk1 : (1 ≤ k)) (hk4 : (k ≤ 4)) (hl : (FP.Core.DInt w wB ∧ FP.Core.DInt d dB ∧ 0 ≤ w ∧ w ≤ 65536 ∧ 0 ≤ d ∧ d ≤ 32768)) :
    MetFree l (⟨"com/example/arbor_center/arborcenter/objective/UpperEnvelope", "add", "(DD)V"⟩ : MethodName) (head1 (Jvm.Cond.code (⟨"com/example/arbor_center/arborcenter/objective/UpperEnvelope", "add", "(DD)V"⟩ : MethodName) prog_12_method_3_code 18 none :: ws) ({ frames := 0, cells := 0, slots := 0, locals := 0 } : Room)) (fun A9 U9 => A9 = #[(.ref a), (.double wB), (.double dB)] ∧ Z.Warmed39 U9.vm ∧ U9.heap = h0) (fun _ _ _ _ _ => True) (fun _ U9 o9 V9 => ∃ v9 L9, o9 = .returned v9 ∧ (Q6 Z a wB dB ph pl k1 k2 k hp ls P W D w d h0 n0) v9 V9.heap L9 ∧ FrameEnd U9 o9 V9 L9 ({ frames := 0, cells := 0, slots := 0, locals := 0 } : Room).cells ({ frames := 0, cells := 0, slots := 0, locals := 0 } : Room).slots) := by
  refine met_of (Q := (Q6 Z a wB dB ph pl k1 k2 k hp ls P W D w d h0 n0)) pn_6 ?_
  intro p e s m below meth c T0 C X0 e0
  have N0 := Fr.nil n0
  refine Go.cast (ef_6 m a wB dB) ?_
  refine wdloadN C X0 f6_0 rfl ?_
  refine wdstore C X0 f6_1 #[.val (.ref a), .val (.double wB), .second, .val (.double dB), .second, .val (.double wB), .second, .unset, .unset, .unset, .unset, .unset, .unset, .unset, .unset, .unset, .unset, .unset] rfl ?_
  refine wdloadN C X0 f6_3 rfl ?_
  refine wldc2D C X0 (tw_31 hw) f6_4 ?_
  refine wddiv C X0 f6_7 (v := (FP.ddiv dB (4611686018427387904 : UInt64))) rfl (own_H_nn (own_H_div hl.2.1 (by have := hl.2.2; omega))) ?_
  refine wdstore C X0 f6_8 #[.val (.ref a), .val (.double wB), .second, .val (.double dB), .second, .val (.double wB), .second, .val (.double (FP.ddiv dB (4611686018427387904 : UInt64))), .second, .unset, .unset, .unset, .unset, .unset, .unset, .unset, .unset, .unset] rfl ?_
  refine wiconst C X0 f6_10 (0 : Int32) rfl ?_
  refine own_foldI (z := (Int32.ofNat 0)) rfl ?_
  refine wistore C X0 f6_11 #[.val (.ref a), .val (.double wB), .second, .val (.double dB), .second, .val (.double wB), .second, .val (.double (FP.ddiv dB (4611686018427387904 : UInt64))), .second, .val (.int (Int32.ofNat 0)), .unset, .unset, .unset, .unset, .unset, .unset, .unset, .unset] rfl ?_
  refine wiconst C X0 f6_13 (0 : Int32) rfl ?_
  refine own_foldI (z := (Int32.ofNat 0)) rfl ?_
  refine wistore C X0 f6_14 #[.val (.ref a), .val (.double wB), .second, .val (.double dB), .second, .val (.double wB), .second, .val (.double (FP.ddiv dB (4611686018427387904 : UInt64))), .second, .val (.int (Int32.ofNat 0)), .val (.int (Int32.ofNat 0)), .unset, .unset, .unset, .unset, .unset, .unset, .unset] rfl ?_
  refine waloadN C X0 f6_16 rfl rfl ?_
  refine wget C X0 (host := "") (Or.inl (tw_29 hw)) Via.refl e0 Fld_1 f6_17 ?_
  intro T1 X1 e1
  refine wiconst C X1 f6_20 (1 : Int32) rfl ?_
  refine wisub C X1 f6_21 ?_
  refine own_foldI (z := (Int32.ofNat (k - 1))) (own_k1 _ (by omega) hk1) ?_
  refine wistore C X1 f6_22 #[.val (.ref a), .val (.double wB), .second, .val (.double dB), .second, .val (.double wB), .second, .val (.double (FP.ddiv dB (4611686018427387904 : UInt64))), .second, .val (.int (Int32.ofNat 0)), .val (.int (Int32.ofNat 0)), .val (.int (Int32.ofNat (k - 1))), .unset, .unset, .unset, .unset, .unset, .unset] rfl ?_
  refine Go.mono (own_loop C hw ge_5 ne_6 ne_7 hP hmono hk4 3 X1 (by decide) (by decide) e1 N0 (Keep.refl h0 [pl]) Fld_0 Fld_2 Arv_3 Arv_4 hL ⟨hl.1, own_H_div hl.2.1 (by have := hl.2.2; omega), hl.2.2⟩ (Or.inl ⟨rfl, rfl, rfl, rfl, rfl, rfl⟩) (Nat.zero_le _) (by omega) (by omega) (by omega)) ?_
  intro v9 h9 L9 q9
  obtain ⟨r1, r2, r3, ls', W', D', r4, r5, r6⟩ := q9
  exact ⟨ls', W', D', r1, r2, r3, r4, r5, fun i hi => r6.1 i (Nat.zero_le _) (by omega)⟩
theorem own_tn {t : UInt64} (h : ∃ q : Int, FP.Core.DInt q t ∧ 0 ≤ q ∧ q ≤ 65536) : Jvm.Free.Fl.NoNaN64 (FP.ddiv t (4611686018427387904 : UInt64)) := by obtain ⟨q, h1, h2, h3⟩ := h; exact own_H_nn (own_H_div h1 (by omega))
theorem f5_0 : Dec prog_12_method_2_code 0 (.aload_n 0) 1 1 := ⟨by decide +kernel, rfl⟩
theorem f5_1 : Dec prog_12_method_2_code 1 (.iload_n 2) 1 2 := ⟨by decide +kernel, rfl⟩
theorem f5_2 : Dec prog_12_method_2_code 2 (.putfield 16) 3 5 := ⟨by decide +kernel, rfl⟩
theorem f5_5 : Dec prog_12_method_2_code 5 (.iconst 0) 1 6 := ⟨by decide +kernel, rfl⟩
theorem f5_6 : Dec prog_12_method_2_code 6 (.istore_n 3) 1 7 := ⟨by decide +kernel, rfl⟩
theorem f5_7 : Dec prog_12_method_2_code 7 (.iload_n 3) 1 8 := ⟨by decide +kernel, rfl⟩
theorem f5_8 : Dec prog_12_method_2_code 8 (.iload_n 2) 1 9 := ⟨by decide +kernel, rfl⟩
theorem f5_9 : DecJ prog_12_method_2_code 9 (.if_icmp .ge 22) 22 31 12 := ⟨by decide +kernel, by decide, by decide, rfl⟩
theorem f5_12 : Dec prog_12_method_2_code 12 (.aload_n 0) 1 13 := ⟨by decide +kernel, rfl⟩
theorem f5_13 : Dec prog_12_method_2_code 13 (.getfield 7) 3 16 := ⟨by decide +kernel, rfl⟩
theorem f5_16 : Dec prog_12_method_2_code 16 (.iload_n 3) 1 17 := ⟨by decide +kernel, rfl⟩
theorem f5_17 : Dec prog_12_method_2_code 17 (.aload_n 1) 1 18 := ⟨by decide +kernel, rfl⟩
theorem f5_18 : Dec prog_12_method_2_code 18 (.iload_n 3) 1 19 := ⟨by decide +kernel, rfl⟩
theorem f5_19 : Dec prog_12_method_2_code 19 (.daload) 1 20 := ⟨by decide +kernel, rfl⟩
theorem f5_20 : Dec prog_12_method_2_code 20 (.ldc2_w 20) 3 23 := ⟨by decide +kernel, rfl⟩
theorem f5_23 : Dec prog_12_method_2_code 23 (.ddiv) 1 24 := ⟨by decide +kernel, rfl⟩
theorem f5_24 : Dec prog_12_method_2_code 24 (.dastore) 1 25 := ⟨by decide +kernel, rfl⟩
theorem f5_25 : Dec prog_12_method_2_code 25 (.iinc 3 1) 3 28 := ⟨by decide +kernel, rfl⟩
theorem f5_28 : DecJ prog_12_method_2_code 28 (.goto (-21)) (-21) 7 31 := ⟨by decide +kernel, by decide, by decide, rfl⟩
theorem f5_31 : Dec prog_12_method_2_code 31 (.iconst 0) 1 32 := ⟨by decide +kernel, rfl⟩
theorem f5_32 : Dec prog_12_method_2_code 32 (.istore_n 3) 1 33 := ⟨by decide +kernel, rfl⟩
theorem f5_33 : Dec prog_12_method_2_code 33 (.iload_n 3) 1 34 := ⟨by decide +kernel, rfl⟩
theorem f5_34 : Dec prog_12_method_2_code 34 (.iconst 2) 1 35 := ⟨by decide +kernel, rfl⟩
theorem f5_35 : Dec prog_12_method_2_code 35 (.iconst 2) 1 36 := ⟨by decide +kernel, rfl⟩
theorem f5_36 : Dec prog_12_method_2_code 36 (.iload_n 2) 1 37 := ⟨by decide +kernel, rfl⟩
theorem f5_37 : Dec prog_12_method_2_code 37 (.imul) 1 38 := ⟨by decide +kernel, rfl⟩
theorem f5_38 : Dec prog_12_method_2_code 38 (.iconst 1) 1 39 := ⟨by decide +kernel, rfl⟩
theorem f5_39 : Dec prog_12_method_2_code 39 (.isub) 1 40 := ⟨by decide +kernel, rfl⟩
theorem f5_40 : Dec prog_12_method_2_code 40 (.imul) 1 41 := ⟨by decide +kernel, rfl⟩
theorem f5_41 : DecJ prog_12_method_2_code 41 (.if_icmp .ge 16) 16 57 44 := ⟨by decide +kernel, by decide, by decide, rfl⟩
theorem f5_44 : Dec prog_12_method_2_code 44 (.aload_n 0) 1 45 := ⟨by decide +kernel, rfl⟩
theorem f5_45 : Dec prog_12_method_2_code 45 (.getfield 13) 3 48 := ⟨by decide +kernel, rfl⟩
theorem f5_48 : Dec prog_12_method_2_code 48 (.iload_n 3) 1 49 := ⟨by decide +kernel, rfl⟩
theorem f5_49 : Dec prog_12_method_2_code 49 (.dconst 0) 1 50 := ⟨by decide +kernel, rfl⟩
theorem f5_50 : Dec prog_12_method_2_code 50 (.dastore) 1 51 := ⟨by decide +kernel, rfl⟩
theorem f5_51 : Dec prog_12_method_2_code 51 (.iinc 3 1) 3 54 := ⟨by decide +kernel, rfl⟩
theorem f5_54 : DecJ prog_12_method_2_code 54 (.goto (-21)) (-21) 33 57 := ⟨by decide +kernel, by decide, by decide, rfl⟩
theorem f5_57 : Dec prog_12_method_2_code 57 (.return_) 1 58 := ⟨by decide +kernel, rfl⟩
theorem pn_5 : plainFor (⟨"com/example/arbor_center/arborcenter/objective/UpperEnvelope", "reset", "([DI)V"⟩ : MethodName) = true := plainFor_of_name (show plainName "com/example/arbor_center/arborcenter/objective/UpperEnvelope" = true by first | (simp [plainName, overriddenIn]; done) | decide +kernel)
theorem ef_5_1 (m : MethodId) (a : Addr) (pt : Addr) (cn : Int32) : entryFrame m #[(.ref a), (.ref pt), (.int cn)] 4 = mkF m 0 #[.val (.ref a), .val (.ref pt), .val (.int cn), .unset] [] := by first | (simp [entryFrame, mkF, argsToLocals, Value.category]; done) | rfl
def Q5_1 (Z : State) (a : Addr) (pt : Addr) (cn : Int32) (ph : Addr) (pl : Addr) (k1 : ClassId) (k2 : ClassId) (k3 : ClassId) (oc : Int32) (ls : List Value) (qq0 : UInt64) (qq1 : UInt64) (qq2 : UInt64) (qq3 : UInt64) (t0 : UInt64) (t1 : UInt64) (t2 : UInt64) (t3 : UInt64) (h0 : Heap) (n0 : Nat) (v9 : Option Value) (h9 : Heap) (L9 : List Loc) : Prop := v9 = none ∧ Fr n0 L9 ∧ Keep h0 h9 [a, ph, pl] ∧ Exa Z h9 a "com/example/arbor_center/arborcenter/objective/UpperEnvelope" ∧ Fld Z h9 a "com/example/arbor_center/arborcenter/objective/UpperEnvelope" "halfPoints" "[D" (.ref ph) ∧ Fld Z h9 a "com/example/arbor_center/arborcenter/objective/UpperEnvelope" "count" "I" (.int (1 : Int32)) ∧ Fld Z h9 a "com/example/arbor_center/arborcenter/objective/UpperEnvelope" "lines" "[D" (.ref pl) ∧ Arv Z h9 ph k1 .double (4 : Int32) [(.double (FP.ddiv t0 (4611686018427387904 : UInt64))), (.double qq1), (.double qq2), (.double qq3)] (.double (0 : UInt64)) ∧ Arv Z h9 pl k2 .double (14 : Int32) ((ls.set 0 (.double FP.dconst0)).set 1 (.double FP.dconst0)) (.double (0 : UInt64))
set_option maxRecDepth 65536 in
set_option maxHeartbeats 40000000 in
theorem rm5_1 (l : Launch) (Z : State) (a0 : Array Value) (hw : ∀ d ∈ tables_1, d.before a0 Z = true) (ws : List Jvm.Cond) (a : Addr) (pt : Addr) (cn : Int32) (ph : Addr) (pl : Addr) (k1 : ClassId) (k2 : ClassId) (k3 : ClassId) (oc : Int32) (ls : List Value) (qq0 : UInt64) (qq1 : UInt64) (qq2 : UInt64) (qq3 : UInt64) (t0 : UInt64) (t1 : UInt64) (t2 : UInt64) (t3 : UInt64) (h0 : Heap) (n0 : Nat) (Z0 : n0 ≤ h0.size) (Exa_0 : Exa Z h0 a "com/example/arbor_center/arborcenter/objective/UpperEnvelope") (Fld_1 : Fld Z h0 a "com/example/arbor_center/arborcenter/objective/UpperEnvelope" "halfPoints" "[D" (.ref ph)) (Fld_2 : Fld Z h0 a "com/example/arbor_center/arborcenter/objective/UpperEnvelope" "count" "I" (.int oc)) (Fld_3 : Fld Z h0 a "com/example/arbor_center/arborcenter/objective/UpperEnvelope" "lines" "[D" (.ref pl)) (Arv_4 : Arv Z h0 ph k1 .double (4 : Int32) [(.double qq0), (.double qq1), (.double qq2), (.double qq3)] (.double (0 : UInt64))) (Arv_5 : Arv Z h0 pl k2 .double (14 : Int32) ls (.double (0 : UInt64))) (Arv_6 : Arv Z h0 pt k3 .double (4 : Int32) [(.double t0), (.double t1), (.double t2), (.double t3)] (.double (0 : UInt64))) (ge_7 : n0 ≤ a) (ge_8 : n0 ≤ ph) (ge_9 : n0 ≤ pl) (ne_10 : a ≠ ph) (ne_11 : a ≠ pl) (ne_12 : ph ≠ pl) (ne_13 : pt ≠ a) (ne_14 : pt ≠ ph) (ne_15 : pt ≠ pl) (hcn : (cn = (1 : Int32))) (hlen : (ls.length = 14)) (ht0 : (∃ q : Int, FP.Core.DInt q t0 ∧ 0 ≤ q ∧ q ≤ 65536)) :
    MetFree l (⟨"com/example/arbor_center/arborcenter/objective/UpperEnvelope", "reset", "([DI)V"⟩ : MethodName) (head1 (Jvm.Cond.code (⟨"com/example/arbor_center/arborcenter/objective/UpperEnvelope", "reset", "([DI)V"⟩ : MethodName) prog_12_method_2_code 4 none :: ws) ({ frames := 0, cells := 0, slots := 0, locals := 0 } : Room)) (fun A9 U9 => A9 = #[(.ref a), (.ref pt), (.int cn)] ∧ Z.Warmed39 U9.vm ∧ U9.heap = h0) (fun _ _ _ _ _ => True) (fun _ U9 o9 V9 => ∃ v9 L9, o9 = .returned v9 ∧ (Q5_1 Z a pt cn ph pl k1 k2 k3 oc ls qq0 qq1 qq2 qq3 t0 t1 t2 t3 h0 n0) v9 V9.heap L9 ∧ FrameEnd U9 o9 V9 L9 ({ frames := 0, cells := 0, slots := 0, locals := 0 } : Room).cells ({ frames := 0, cells := 0, slots := 0, locals := 0 } : Room).slots) := by
  refine met_of (Q := (Q5_1 Z a pt cn ph pl k1 k2 k3 oc ls qq0 qq1 qq2 qq3 t0 t1 t2 t3 h0 n0)) pn_5 ?_
  intro p e s m below meth c T0 C X0 e0
  have N0 := Fr.nil n0
  refine Go.cast (ef_5_1 m a pt cn) ?_
  subst hcn
  refine waloadN C X0 f5_0 rfl rfl ?_
  refine wiloadN C X0 f5_1 rfl ?_
  refine wput C X0 (host := "") (Or.inl (tw_29 hw)) Via.refl e0 Fld_2 Exa_0 (Or.inl (tw_30 hw)) (tw_12 hw) (ty := .int) (by decide) rfl rfl f5_2 ?_
  intro T1 h1 X1 e1 W1
  have Fw1 := Fld_2.same W1
  have N1 := Fr.snoc X1 N0 ge_7
  refine wiconst C X1 f5_5 (0 : Int32) rfl ?_
  refine wistoreN C X1 f5_6 #[.val (.ref a), .val (.ref pt), .val (.int (1 : Int32)), .val (.int (0 : Int32))] rfl ?_
  refine wiloadN C X1 f5_7 rfl ?_
  refine wiloadN C X1 f5_8 rfl ?_
  refine wicmp_ge C X1 f5_9 ?_ (fun q => absurd (by decide : ((0 : Int32) < (1 : Int32))) q)
  intro _
  refine waloadN C X1 f5_12 rfl rfl ?_
  have q2 := (Fld_1.other W1 (Or.inr (slot_ne (Or.inr (tw_21 hw)) (Or.inl (tw_30 hw)) (by decide) (t := (.array .double)) (t' := .int) (by decide) (by decide))))
  refine wget C X1 (host := "") (Or.inl (tw_20 hw)) Via.refl e1 q2 f5_13 ?_
  intro T3 X3 e3
  refine wiloadN C X3 f5_16 rfl ?_
  refine waloadN C X3 f5_17 rfl rfl ?_
  refine wiloadN C X3 f5_18 rfl ?_
  refine wdaload C X3 e3 (Arv_6.other W1 ne_13) f5_19 ⟨by decide, by decide⟩ (i := 0) rfl (v := t0) rfl ?_
  refine wldc2D C X3 (tw_31 hw) f5_20 ?_
  refine wddiv C X3 f5_23 (v := (FP.ddiv t0 (4611686018427387904 : UInt64))) rfl (own_tn ht0) ?_
  refine wdastore C X3 e3 (Arv_4.other W1 (Ne.symm ne_10)) f5_24 ⟨by decide, by decide⟩ 0 rfl (show (0 : Nat) < 4 by decide) [(.double (FP.ddiv t0 (4611686018427387904 : UInt64))), (.double qq1), (.double qq2), (.double qq3)] rfl ?_
  intro T4 h4 sl4 w4 X4 e4 W4 V4
  have N4 := Fr.snoc X4 N1 ge_8
  refine wiinc C X4 f5_25 (1 : Int32) (by decide) rfl #[.val (.ref a), .val (.ref pt), .val (.int (1 : Int32)), .val (.int (1 : Int32))] rfl ?_
  refine wgoto C X4 f5_28 ?_
  refine wiloadN C X4 f5_7 rfl ?_
  refine wiloadN C X4 f5_8 rfl ?_
  refine wicmp_ge C X4 f5_9 (fun q => absurd q (by decide : ¬ ((1 : Int32) < (1 : Int32)))) ?_
  intro _
  refine wiconst C X4 f5_31 (0 : Int32) rfl ?_
  refine wistoreN C X4 f5_32 #[.val (.ref a), .val (.ref pt), .val (.int (1 : Int32)), .val (.int (0 : Int32))] rfl ?_
  refine wiloadN C X4 f5_33 rfl ?_
  refine wiconst C X4 f5_34 (2 : Int32) rfl ?_
  refine wiconst C X4 f5_35 (2 : Int32) rfl ?_
  refine wiloadN C X4 f5_36 rfl ?_
  refine wimul C X4 f5_37 ?_
  refine own_foldI (z := (2 : Int32)) (by decide) ?_
  refine wiconst C X4 f5_38 (1 : Int32) rfl ?_
  refine wisub C X4 f5_39 ?_
  refine own_foldI (z := (1 : Int32)) (by decide) ?_
  refine wimul C X4 f5_40 ?_
  refine own_foldI (z := (2 : Int32)) (by decide) ?_
  refine wicmp_ge C X4 f5_41 ?_ (fun q => absurd (by decide : ((0 : Int32) < (2 : Int32))) q)
  intro _
  refine waloadN C X4 f5_44 rfl rfl ?_
  have q5 := ((Fld_3.other W1 (Or.inr (slot_ne (Or.inr (tw_23 hw)) (Or.inl (tw_30 hw)) (by decide) (t := (.array .double)) (t' := .int) (by decide) (by decide)))).other W4 (Or.inl ne_10))
  refine wget C X4 (host := "") (Or.inl (tw_22 hw)) Via.refl e4 q5 f5_45 ?_
  intro T6 X6 e6
  refine wiloadN C X6 f5_48 rfl ?_
  refine wdconst0 C X6 f5_49 ?_
  refine wdastore C X6 e6 ((Arv_5.other W1 (Ne.symm ne_11)).other W4 (Ne.symm ne_12)) f5_50 ⟨by decide, by decide⟩ 0 rfl (by rw [hlen]; decide) (ls.set 0 (.double FP.dconst0)) rfl ?_
  intro T7 h7 sl7 w7 X7 e7 W7 V7
  have N7 := Fr.snoc X7 N4 ge_9
  refine wiinc C X7 f5_51 (1 : Int32) (by decide) rfl #[.val (.ref a), .val (.ref pt), .val (.int (1 : Int32)), .val (.int (1 : Int32))] rfl ?_
  refine wgoto C X7 f5_54 ?_
  refine wiloadN C X7 f5_33 rfl ?_
  refine wiconst C X7 f5_34 (2 : Int32) rfl ?_
  refine wiconst C X7 f5_35 (2 : Int32) rfl ?_
  refine wiloadN C X7 f5_36 rfl ?_
  refine wimul C X7 f5_37 ?_
  refine own_foldI (z := (2 : Int32)) (by decide) ?_
  refine wiconst C X7 f5_38 (1 : Int32) rfl ?_
  refine wisub C X7 f5_39 ?_
  refine own_foldI (z := (1 : Int32)) (by decide) ?_
  refine wimul C X7 f5_40 ?_
  refine own_foldI (z := (2 : Int32)) (by decide) ?_
  refine wicmp_ge C X7 f5_41 ?_ (fun q => absurd (by decide : ((1 : Int32) < (2 : Int32))) q)
  intro _
  refine waloadN C X7 f5_44 rfl rfl ?_
  refine wget C X7 (host := "") (Or.inl (tw_22 hw)) Via.refl e7 (q5.other W7 (Or.inl ne_11)) f5_45 ?_
  intro T8 X8 e8
  refine wiloadN C X8 f5_48 rfl ?_
  refine wdconst0 C X8 f5_49 ?_
  refine wdastore C X8 e8 V7 f5_50 ⟨by decide, by decide⟩ 1 rfl (by rw [List.length_set, hlen]; decide) ((ls.set 0 (.double FP.dconst0)).set 1 (.double FP.dconst0)) rfl ?_
  intro T9 h9 sl9 w9 X9 e9 W9 V9
  have N9 := Fr.snoc X9 N7 ge_9
  refine wiinc C X9 f5_51 (2 : Int32) (by decide) rfl #[.val (.ref a), .val (.ref pt), .val (.int (1 : Int32)), .val (.int (2 : Int32))] rfl ?_
  refine wgoto C X9 f5_54 ?_
  refine wiloadN C X9 f5_33 rfl ?_
  refine wiconst C X9 f5_34 (2 : Int32) rfl ?_
  refine wiconst C X9 f5_35 (2 : Int32) rfl ?_
  refine wiloadN C X9 f5_36 rfl ?_
  refine wimul C X9 f5_37 ?_
  refine own_foldI (z := (2 : Int32)) (by decide) ?_
  refine wiconst C X9 f5_38 (1 : Int32) rfl ?_
  refine wisub C X9 f5_39 ?_
  refine own_foldI (z := (1 : Int32)) (by decide) ?_
  refine wimul C X9 f5_40 ?_
  refine own_foldI (z := (2 : Int32)) (by decide) ?_
  refine wicmp_ge C X9 f5_41 (fun q => absurd q (by decide : ¬ ((2 : Int32) < (2 : Int32)))) ?_
  intro _
  refine wret C X9 f5_57 rfl (by decide) (by decide) ?_
  rw [e9]
  have q10 := (((((Keep.refl h0 [a, ph, pl]).wr W1 (Or.inl (List.mem_of_getElem? (i := 0) rfl))).wr W4 (Or.inl (List.mem_of_getElem? (i := 1) rfl))).wr W7 (Or.inl (List.mem_of_getElem? (i := 2) rfl))).wr W9 (Or.inl (List.mem_of_getElem? (i := 2) rfl)))
  have q11 := (((q2.other W4 (Or.inl ne_10)).other W7 (Or.inl ne_11)).other W9 (Or.inl ne_11))
  have q12 := (((Fw1.other W4 (Or.inl ne_10)).other W7 (Or.inl ne_11)).other W9 (Or.inl ne_11))
  exact ⟨rfl, N9, q10, ((((Exa_0.wr W1).wr W4).wr W7).wr W9), q11, q12, ((q5.other W7 (Or.inl ne_11)).other W9 (Or.inl ne_11)), ((V4.other W7 ne_12).other W9 ne_12), V9⟩
theorem ef_5_2 (m : MethodId) (a : Addr) (pt : Addr) (cn : Int32) : entryFrame m #[(.ref a), (.ref pt), (.int cn)] 4 = mkF m 0 #[.val (.ref a), .val (.ref pt), .val (.int cn), .unset] [] := by first | (simp [entryFrame, mkF, argsToLocals, Value.category]; done) | rfl
def Q5_2 (Z : State) (a : Addr) (pt : Addr) (cn : Int32) (ph : Addr) (pl : Addr) (k1 : ClassId) (k2 : ClassId) (k3 : ClassId) (oc : Int32) (ls : List Value) (qq0 : UInt64) (qq1 : UInt64) (qq2 : UInt64) (qq3 : UInt64) (t0 : UInt64) (t1 : UInt64) (t2 : UInt64) (t3 : UInt64) (h0 : Heap) (n0 : Nat) (v9 : Option Value) (h9 : Heap) (L9 : List Loc) : Prop := v9 = none ∧ Fr n0 L9 ∧ Keep h0 h9 [a, ph, pl] ∧ Exa Z h9 a "com/example/arbor_center/arborcenter/objective/UpperEnvelope" ∧ Fld Z h9 a "com/example/arbor_center/arborcenter/objective/UpperEnvelope" "halfPoints" "[D" (.ref ph) ∧ Fld Z h9 a "com/example/arbor_center/arborcenter/objective/UpperEnvelope" "count" "I" (.int (2 : Int32)) ∧ Fld Z h9 a "com/example/arbor_center/arborcenter/objective/UpperEnvelope" "lines" "[D" (.ref pl) ∧ Arv Z h9 ph k1 .double (4 : Int32) [(.double (FP.ddiv t0 (4611686018427387904 : UInt64))), (.double (FP.ddiv t1 (4611686018427387904 : UInt64))), (.double qq2), (.double qq3)] (.double (0 : UInt64)) ∧ Arv Z h9 pl k2 .double (14 : Int32) ((((((ls.set 0 (.double FP.dconst0)).set 1 (.double FP.dconst0)).set 2 (.double FP.dconst0)).set 3 (.double FP.dconst0)).set 4 (.double FP.dconst0)).set 5 (.double FP.dconst0)) (.double (0 : UInt64))
set_option maxRecDepth 65536 in
set_option maxHeartbeats 40000000 in
theorem rm5_2 (l : Launch) (Z : State) (a0 : Array Value) (hw : ∀ d ∈ tables_1, d.before a0 Z = true) (ws : List Jvm.Cond) (a : Addr) (pt : Addr) (cn : Int32) (ph : Addr) (pl : Addr) (k1 : ClassId) (k2 : ClassId) (k3 : ClassId) (oc : Int32) (ls : List Value) (qq0 : UInt64) (qq1 : UInt64) (qq2 : UInt64) (qq3 : UInt64) (t0 : UInt64) (t1 : UInt64) (t2 : UInt64) (t3 : UInt64) (h0 : Heap) (n0 : Nat) (Z0 : n0 ≤ h0.size) (Exa_0 : Exa Z h0 a "com/example/arbor_center/arborcenter/objective/UpperEnvelope") (Fld_1 : Fld Z h0 a "com/example/arbor_center/arborcenter/objective/UpperEnvelope" "halfPoints" "[D" (.ref ph)) (Fld_2 : Fld Z h0 a "com/example/arbor_center/arborcenter/objective/UpperEnvelope" "count" "I" (.int oc)) (Fld_3 : Fld Z h0 a "com/example/arbor_center/arborcenter/objective/UpperEnvelope" "lines" "[D" (.ref pl)) (Arv_4 : Arv Z h0 ph k1 .double (4 : Int32) [(.double qq0), (.double qq1), (.double qq2), (.double qq3)] (.double (0 : UInt64))) (Arv_5 : Arv Z h0 pl k2 .double (14 : Int32) ls (.double (0 : UInt64))) (Arv_6 : Arv Z h0 pt k3 .double (4 : Int32) [(.double t0), (.double t1), (.double t2), (.double t3)] (.double (0 : UInt64))) (ge_7 : n0 ≤ a) (ge_8 : n0 ≤ ph) (ge_9 : n0 ≤ pl) (ne_10 : a ≠ ph) (ne_11 : a ≠ pl) (ne_12 : ph ≠ pl) (ne_13 : pt ≠ a) (ne_14 : pt ≠ ph) (ne_15 : pt ≠ pl) (hcn : (cn = (2 : Int32))) (hlen : (ls.length = 14)) (ht0 : (∃ q : Int, FP.Core.DInt q t0 ∧ 0 ≤ q ∧ q ≤ 65536)) (ht1 : (∃ q : Int, FP.Core.DInt q t1 ∧ 0 ≤ q ∧ q ≤ 65536)) :
    MetFree l (⟨"com/example/arbor_center/arborcenter/objective/UpperEnvelope", "reset", "([DI)V"⟩ : MethodName) (head1 (Jvm.Cond.code (⟨"com/example/arbor_center/arborcenter/objective/UpperEnvelope", "reset", "([DI)V"⟩ : MethodName) prog_12_method_2_code 4 none :: ws) ({ frames := 0, cells := 0, slots := 0, locals := 0 } : Room)) (fun A9 U9 => A9 = #[(.ref a), (.ref pt), (.int cn)] ∧ Z.Warmed39 U9.vm ∧ U9.heap = h0) (fun _ _ _ _ _ => True) (fun _ U9 o9 V9 => ∃ v9 L9, o9 = .returned v9 ∧ (Q5_2 Z a pt cn ph pl k1 k2 k3 oc ls qq0 qq1 qq2 qq3 t0 t1 t2 t3 h0 n0) v9 V9.heap L9 ∧ FrameEnd U9 o9 V9 L9 ({ frames := 0, cells := 0, slots := 0, locals := 0 } : Room).cells ({ frames := 0, cells := 0, slots := 0, locals := 0 } : Room).slots) := by
  refine met_of (Q := (Q5_2 Z a pt cn ph pl k1 k2 k3 oc ls qq0 qq1 qq2 qq3 t0 t1 t2 t3 h0 n0)) pn_5 ?_
  intro p e s m below meth c T0 C X0 e0
  have N0 := Fr.nil n0
  refine Go.cast (ef_5_2 m a pt cn) ?_
  subst hcn
  refine waloadN C X0 f5_0 rfl rfl ?_
  refine wiloadN C X0 f5_1 rfl ?_
  refine wput C X0 (host := "") (Or.inl (tw_29 hw)) Via.refl e0 Fld_2 Exa_0 (Or.inl (tw_30 hw)) (tw_12 hw) (ty := .int) (by decide) rfl rfl f5_2 ?_
  intro T1 h1 X1 e1 W1
  have Fw1 := Fld_2.same W1
  have N1 := Fr.snoc X1 N0 ge_7
  refine wiconst C X1 f5_5 (0 : Int32) rfl ?_
  refine wistoreN C X1 f5_6 #[.val (.ref a), .val (.ref pt), .val (.int (2 : Int32)), .val (.int (0 : Int32))] rfl ?_
  refine wiloadN C X1 f5_7 rfl ?_
  refine wiloadN C X1 f5_8 rfl ?_
  refine wicmp_ge C X1 f5_9 ?_ (fun q => absurd (by decide : ((0 : Int32) < (2 : Int32))) q)
  intro _
  refine waloadN C X1 f5_12 rfl rfl ?_
  have q2 := (Fld_1.other W1 (Or.inr (slot_ne (Or.inr (tw_21 hw)) (Or.inl (tw_30 hw)) (by decide) (t := (.array .double)) (t' := .int) (by decide) (by decide))))
  refine wget C X1 (host := "") (Or.inl (tw_20 hw)) Via.refl e1 q2 f5_13 ?_
  intro T3 X3 e3
  refine wiloadN C X3 f5_16 rfl ?_
  refine waloadN C X3 f5_17 rfl rfl ?_
  refine wiloadN C X3 f5_18 rfl ?_
  refine wdaload C X3 e3 (Arv_6.other W1 ne_13) f5_19 ⟨by decide, by decide⟩ (i := 0) rfl (v := t0) rfl ?_
  refine wldc2D C X3 (tw_31 hw) f5_20 ?_
  refine wddiv C X3 f5_23 (v := (FP.ddiv t0 (4611686018427387904 : UInt64))) rfl (own_tn ht0) ?_
  refine wdastore C X3 e3 (Arv_4.other W1 (Ne.symm ne_10)) f5_24 ⟨by decide, by decide⟩ 0 rfl (show (0 : Nat) < 4 by decide) [(.double (FP.ddiv t0 (4611686018427387904 : UInt64))), (.double qq1), (.double qq2), (.double qq3)] rfl ?_
  intro T4 h4 sl4 w4 X4 e4 W4 V4
  have N4 := Fr.snoc X4 N1 ge_8
  refine wiinc C X4 f5_25 (1 : Int32) (by decide) rfl #[.val (.ref a), .val (.ref pt), .val (.int (2 : Int32)), .val (.int (1 : Int32))] rfl ?_
  refine wgoto C X4 f5_28 ?_
  refine wiloadN C X4 f5_7 rfl ?_
  refine wiloadN C X4 f5_8 rfl ?_
  refine wicmp_ge C X4 f5_9 ?_ (fun q => absurd (by decide : ((1 : Int32) < (2 : Int32))) q)
  intro _
  refine waloadN C X4 f5_12 rfl rfl ?_
  refine wget C X4 (host := "") (Or.inl (tw_20 hw)) Via.refl e4 (q2.other W4 (Or.inl ne_10)) f5_13 ?_
  intro T5 X5 e5
  refine wiloadN C X5 f5_16 rfl ?_
  refine waloadN C X5 f5_17 rfl rfl ?_
  refine wiloadN C X5 f5_18 rfl ?_
  refine wdaload C X5 e5 ((Arv_6.other W1 ne_13).other W4 ne_14) f5_19 ⟨by decide, by decide⟩ (i := 1) rfl (v := t1) rfl ?_
  refine wldc2D C X5 (tw_31 hw) f5_20 ?_
  refine wddiv C X5 f5_23 (v := (FP.ddiv t1 (4611686018427387904 : UInt64))) rfl (own_tn ht1) ?_
  refine wdastore C X5 e5 V4 f5_24 ⟨by decide, by decide⟩ 1 rfl (show (1 : Nat) < 4 by decide) [(.double (FP.ddiv t0 (4611686018427387904 : UInt64))), (.double (FP.ddiv t1 (4611686018427387904 : UInt64))), (.double qq2), (.double qq3)] rfl ?_
  intro T6 h6 sl6 w6 X6 e6 W6 V6
  have N6 := Fr.snoc X6 N4 ge_8
  refine wiinc C X6 f5_25 (2 : Int32) (by decide) rfl #[.val (.ref a), .val (.ref pt), .val (.int (2 : Int32)), .val (.int (2 : Int32))] rfl ?_
  refine wgoto C X6 f5_28 ?_
  refine wiloadN C X6 f5_7 rfl ?_
  refine wiloadN C X6 f5_8 rfl ?_
  refine wicmp_ge C X6 f5_9 (fun q => absurd q (by decide : ¬ ((2 : Int32) < (2 : Int32)))) ?_
  intro _
  refine wiconst C X6 f5_31 (0 : Int32) rfl ?_
  refine wistoreN C X6 f5_32 #[.val (.ref a), .val (.ref pt), .val (.int (2 : Int32)), .val (.int (0 : Int32))] rfl ?_
  refine wiloadN C X6 f5_33 rfl ?_
  refine wiconst C X6 f5_34 (2 : Int32) rfl ?_
  refine wiconst C X6 f5_35 (2 : Int32) rfl ?_
  refine wiloadN C X6 f5_36 rfl ?_
  refine wimul C X6 f5_37 ?_
  refine own_foldI (z := (4 : Int32)) (by decide) ?_
  refine wiconst C X6 f5_38 (1 : Int32) rfl ?_
  refine wisub C X6 f5_39 ?_
  refine own_foldI (z := (3 : Int32)) (by decide) ?_
  refine wimul C X6 f5_40 ?_
  refine own_foldI (z := (6 : Int32)) (by decide) ?_
  refine wicmp_ge C X6 f5_41 ?_ (fun q => absurd (by decide : ((0 : Int32) < (6 : Int32))) q)
  intro _
  refine waloadN C X6 f5_44 rfl rfl ?_
  have q7 := (((Fld_3.other W1 (Or.inr (slot_ne (Or.inr (tw_23 hw)) (Or.inl (tw_30 hw)) (by decide) (t := (.array .double)) (t' := .int) (by decide) (by decide)))).other W4 (Or.inl ne_10)).other W6 (Or.inl ne_10))
  refine wget C X6 (host := "") (Or.inl (tw_22 hw)) Via.refl e6 q7 f5_45 ?_
  intro T8 X8 e8
  refine wiloadN C X8 f5_48 rfl ?_
  refine wdconst0 C X8 f5_49 ?_
  have q9 := (((Arv_5.other W1 (Ne.symm ne_11)).other W4 (Ne.symm ne_12)).other W6 (Ne.symm ne_12))
  refine wdastore C X8 e8 q9 f5_50 ⟨by decide, by decide⟩ 0 rfl (by rw [hlen]; decide) (ls.set 0 (.double FP.dconst0)) rfl ?_
  intro T10 h10 sl10 w10 X10 e10 W10 V10
  have N10 := Fr.snoc X10 N6 ge_9
  refine wiinc C X10 f5_51 (1 : Int32) (by decide) rfl #[.val (.ref a), .val (.ref pt), .val (.int (2 : Int32)), .val (.int (1 : Int32))] rfl ?_
  refine wgoto C X10 f5_54 ?_
  refine wiloadN C X10 f5_33 rfl ?_
  refine wiconst C X10 f5_34 (2 : Int32) rfl ?_
  refine wiconst C X10 f5_35 (2 : Int32) rfl ?_
  refine wiloadN C X10 f5_36 rfl ?_
  refine wimul C X10 f5_37 ?_
  refine own_foldI (z := (4 : Int32)) (by decide) ?_
  refine wiconst C X10 f5_38 (1 : Int32) rfl ?_
  refine wisub C X10 f5_39 ?_
  refine own_foldI (z := (3 : Int32)) (by decide) ?_
  refine wimul C X10 f5_40 ?_
  refine own_foldI (z := (6 : Int32)) (by decide) ?_
  refine wicmp_ge C X10 f5_41 ?_ (fun q => absurd (by decide : ((1 : Int32) < (6 : Int32))) q)
  intro _
  refine waloadN C X10 f5_44 rfl rfl ?_
  refine wget C X10 (host := "") (Or.inl (tw_22 hw)) Via.refl e10 (q7.other W10 (Or.inl ne_11)) f5_45 ?_
  intro T11 X11 e11
  refine wiloadN C X11 f5_48 rfl ?_
  refine wdconst0 C X11 f5_49 ?_
  refine wdastore C X11 e11 V10 f5_50 ⟨by decide, by decide⟩ 1 rfl (by rw [List.length_set, hlen]; decide) ((ls.set 0 (.double FP.dconst0)).set 1 (.double FP.dconst0)) rfl ?_
  intro T12 h12 sl12 w12 X12 e12 W12 V12
  have N12 := Fr.snoc X12 N10 ge_9
  refine wiinc C X12 f5_51 (2 : Int32) (by decide) rfl #[.val (.ref a), .val (.ref pt), .val (.int (2 : Int32)), .val (.int (2 : Int32))] rfl ?_
  refine wgoto C X12 f5_54 ?_
  refine wiloadN C X12 f5_33 rfl ?_
  refine wiconst C X12 f5_34 (2 : Int32) rfl ?_
  refine wiconst C X12 f5_35 (2 : Int32) rfl ?_
  refine wiloadN C X12 f5_36 rfl ?_
  refine wimul C X12 f5_37 ?_
  refine own_foldI (z := (4 : Int32)) (by decide) ?_
  refine wiconst C X12 f5_38 (1 : Int32) rfl ?_
  refine wisub C X12 f5_39 ?_
  refine own_foldI (z := (3 : Int32)) (by decide) ?_
  refine wimul C X12 f5_40 ?_
  refine own_foldI (z := (6 : Int32)) (by decide) ?_
  refine wicmp_ge C X12 f5_41 ?_ (fun q => absurd (by decide : ((2 : Int32) < (6 : Int32))) q)
  intro _
  refine waloadN C X12 f5_44 rfl rfl ?_
  refine wget C X12 (host := "") (Or.inl (tw_22 hw)) Via.refl e12 ((q7.other W10 (Or.inl ne_11)).other W12 (Or.inl ne_11)) f5_45 ?_
  intro T13 X13 e13
  refine wiloadN C X13 f5_48 rfl ?_
  refine wdconst0 C X13 f5_49 ?_
  refine wdastore C X13 e13 V12 f5_50 ⟨by decide, by decide⟩ 2 rfl (by rw [List.length_set, List.length_set, hlen]; decide) (((ls.set 0 (.double FP.dconst0)).set 1 (.double FP.dconst0)).set 2 (.double FP.dconst0)) rfl ?_
  intro T14 h14 sl14 w14 X14 e14 W14 V14
  have N14 := Fr.snoc X14 N12 ge_9
  refine wiinc C X14 f5_51 (3 : Int32) (by decide) rfl #[.val (.ref a), .val (.ref pt), .val (.int (2 : Int32)), .val (.int (3 : Int32))] rfl ?_
  refine wgoto C X14 f5_54 ?_
  refine wiloadN C X14 f5_33 rfl ?_
  refine wiconst C X14 f5_34 (2 : Int32) rfl ?_
  refine wiconst C X14 f5_35 (2 : Int32) rfl ?_
  refine wiloadN C X14 f5_36 rfl ?_
  refine wimul C X14 f5_37 ?_
  refine own_foldI (z := (4 : Int32)) (by decide) ?_
  refine wiconst C X14 f5_38 (1 : Int32) rfl ?_
  refine wisub C X14 f5_39 ?_
  refine own_foldI (z := (3 : Int32)) (by decide) ?_
  refine wimul C X14 f5_40 ?_
  refine own_foldI (z := (6 : Int32)) (by decide) ?_
  refine wicmp_ge C X14 f5_41 ?_ (fun q => absurd (by decide : ((3 : Int32) < (6 : Int32))) q)
  intro _
  refine waloadN C X14 f5_44 rfl rfl ?_
  have q15 := (((q7.other W10 (Or.inl ne_11)).other W12 (Or.inl ne_11)).other W14 (Or.inl ne_11))
  refine wget C X14 (host := "") (Or.inl (tw_22 hw)) Via.refl e14 q15 f5_45 ?_
  intro T16 X16 e16
  refine wiloadN C X16 f5_48 rfl ?_
  refine wdconst0 C X16 f5_49 ?_
  refine wdastore C X16 e16 V14 f5_50 ⟨by decide, by decide⟩ 3 rfl (by rw [List.length_set, List.length_set, List.length_set, hlen]; decide) ((((ls.set 0 (.double FP.dconst0)).set 1 (.double FP.dconst0)).set 2 (.double FP.dconst0)).set 3 (.double FP.dconst0)) rfl ?_
  intro T17 h17 sl17 w17 X17 e17 W17 V17
  have N17 := Fr.snoc X17 N14 ge_9
  refine wiinc C X17 f5_51 (4 : Int32) (by decide) rfl #[.val (.ref a), .val (.ref pt), .val (.int (2 : Int32)), .val (.int (4 : Int32))] rfl ?_
  refine wgoto C X17 f5_54 ?_
  refine wiloadN C X17 f5_33 rfl ?_
  refine wiconst C X17 f5_34 (2 : Int32) rfl ?_
  refine wiconst C X17 f5_35 (2 : Int32) rfl ?_
  refine wiloadN C X17 f5_36 rfl ?_
  refine wimul C X17 f5_37 ?_
  refine own_foldI (z := (4 : Int32)) (by decide) ?_
  refine wiconst C X17 f5_38 (1 : Int32) rfl ?_
  refine wisub C X17 f5_39 ?_
  refine own_foldI (z := (3 : Int32)) (by decide) ?_
  refine wimul C X17 f5_40 ?_
  refine own_foldI (z := (6 : Int32)) (by decide) ?_
  refine wicmp_ge C X17 f5_41 ?_ (fun q => absurd (by decide : ((4 : Int32) < (6 : Int32))) q)
  intro _
  refine waloadN C X17 f5_44 rfl rfl ?_
  refine wget C X17 (host := "") (Or.inl (tw_22 hw)) Via.refl e17 (q15.other W17 (Or.inl ne_11)) f5_45 ?_
  intro T18 X18 e18
  refine wiloadN C X18 f5_48 rfl ?_
  refine wdconst0 C X18 f5_49 ?_
  refine wdastore C X18 e18 V17 f5_50 ⟨by decide, by decide⟩ 4 rfl (by rw [List.length_set, List.length_set, List.length_set, List.length_set, hlen]; decide) (((((ls.set 0 (.double FP.dconst0)).set 1 (.double FP.dconst0)).set 2 (.double FP.dconst0)).set 3 (.double FP.dconst0)).set 4 (.double FP.dconst0)) rfl ?_
  intro T19 h19 sl19 w19 X19 e19 W19 V19
  have N19 := Fr.snoc X19 N17 ge_9
  refine wiinc C X19 f5_51 (5 : Int32) (by decide) rfl #[.val (.ref a), .val (.ref pt), .val (.int (2 : Int32)), .val (.int (5 : Int32))] rfl ?_
  refine wgoto C X19 f5_54 ?_
  refine wiloadN C X19 f5_33 rfl ?_
  refine wiconst C X19 f5_34 (2 : Int32) rfl ?_
  refine wiconst C X19 f5_35 (2 : Int32) rfl ?_
  refine wiloadN C X19 f5_36 rfl ?_
  refine wimul C X19 f5_37 ?_
  refine own_foldI (z := (4 : Int32)) (by decide) ?_
  refine wiconst C X19 f5_38 (1 : Int32) rfl ?_
  refine wisub C X19 f5_39 ?_
  refine own_foldI (z := (3 : Int32)) (by decide) ?_
  refine wimul C X19 f5_40 ?_
  refine own_foldI (z := (6 : Int32)) (by decide) ?_
  refine wicmp_ge C X19 f5_41 ?_ (fun q => absurd (by decide : ((5 : Int32) < (6 : Int32))) q)
  intro _
  refine waloadN C X19 f5_44 rfl rfl ?_
  refine wget C X19 (host := "") (Or.inl (tw_22 hw)) Via.refl e19 ((q15.other W17 (Or.inl ne_11)).other W19 (Or.inl ne_11)) f5_45 ?_
  intro T20 X20 e20
  refine wiloadN C X20 f5_48 rfl ?_
  refine wdconst0 C X20 f5_49 ?_
  refine wdastore C X20 e20 V19 f5_50 ⟨by decide, by decide⟩ 5 rfl (by rw [List.length_set, List.length_set, List.length_set, List.length_set, List.length_set, hlen]; decide) ((((((ls.set 0 (.double FP.dconst0)).set 1 (.double FP.dconst0)).set 2 (.double FP.dconst0)).set 3 (.double FP.dconst0)).set 4 (.double FP.dconst0)).set 5 (.double FP.dconst0)) rfl ?_
  intro T21 h21 sl21 w21 X21 e21 W21 V21
  have N21 := Fr.snoc X21 N19 ge_9
  refine wiinc C X21 f5_51 (6 : Int32) (by decide) rfl #[.val (.ref a), .val (.ref pt), .val (.int (2 : Int32)), .val (.int (6 : Int32))] rfl ?_
  refine wgoto C X21 f5_54 ?_
  refine wiloadN C X21 f5_33 rfl ?_
  refine wiconst C X21 f5_34 (2 : Int32) rfl ?_
  refine wiconst C X21 f5_35 (2 : Int32) rfl ?_
  refine wiloadN C X21 f5_36 rfl ?_
  refine wimul C X21 f5_37 ?_
  refine own_foldI (z := (4 : Int32)) (by decide) ?_
  refine wiconst C X21 f5_38 (1 : Int32) rfl ?_
  refine wisub C X21 f5_39 ?_
  refine own_foldI (z := (3 : Int32)) (by decide) ?_
  refine wimul C X21 f5_40 ?_
  refine own_foldI (z := (6 : Int32)) (by decide) ?_
  refine wicmp_ge C X21 f5_41 (fun q => absurd q (by decide : ¬ ((6 : Int32) < (6 : Int32)))) ?_
  intro _
  refine wret C X21 f5_57 rfl (by decide) (by decide) ?_
  rw [e21]
  have q22 := ((((((((((Keep.refl h0 [a, ph, pl]).wr W1 (Or.inl (List.mem_of_getElem? (i := 0) rfl))).wr W4 (Or.inl (List.mem_of_getElem? (i := 1) rfl))).wr W6 (Or.inl (List.mem_of_getElem? (i := 1) rfl))).wr W10 (Or.inl (List.mem_of_getElem? (i := 2) rfl))).wr W12 (Or.inl (List.mem_of_getElem? (i := 2) rfl))).wr W14 (Or.inl (List.mem_of_getElem? (i := 2) rfl))).wr W17 (Or.inl (List.mem_of_getElem? (i := 2) rfl))).wr W19 (Or.inl (List.mem_of_getElem? (i := 2) rfl))).wr W21 (Or.inl (List.mem_of_getElem? (i := 2) rfl)))
  have q23 := (((((((((Exa_0.wr W1).wr W4).wr W6).wr W10).wr W12).wr W14).wr W17).wr W19).wr W21)
  have q24 := ((((((((q2.other W4 (Or.inl ne_10)).other W6 (Or.inl ne_10)).other W10 (Or.inl ne_11)).other W12 (Or.inl ne_11)).other W14 (Or.inl ne_11)).other W17 (Or.inl ne_11)).other W19 (Or.inl ne_11)).other W21 (Or.inl ne_11))
  have q25 := ((((((((Fw1.other W4 (Or.inl ne_10)).other W6 (Or.inl ne_10)).other W10 (Or.inl ne_11)).other W12 (Or.inl ne_11)).other W14 (Or.inl ne_11)).other W17 (Or.inl ne_11)).other W19 (Or.inl ne_11)).other W21 (Or.inl ne_11))
  have q26 := (((q15.other W17 (Or.inl ne_11)).other W19 (Or.inl ne_11)).other W21 (Or.inl ne_11))
  have q27 := ((((((V6.other W10 ne_12).other W12 ne_12).other W14 ne_12).other W17 ne_12).other W19 ne_12).other W21 ne_12)
  exact ⟨rfl, N21, q22, q23, q24, q25, q26, q27, V21⟩
theorem ef_5_3 (m : MethodId) (a : Addr) (pt : Addr) (cn : Int32) : entryFrame m #[(.ref a), (.ref pt), (.int cn)] 4 = mkF m 0 #[.val (.ref a), .val (.ref pt), .val (.int cn), .unset] [] := by first | (simp [entryFrame, mkF, argsToLocals, Value.category]; done) | rfl
def Q5_3 (Z : State) (a : Addr) (pt : Addr) (cn : Int32) (ph : Addr) (pl : Addr) (k1 : ClassId) (k2 : ClassId) (k3 : ClassId) (oc : Int32) (ls : List Value) (qq0 : UInt64) (qq1 : UInt64) (qq2 : UInt64) (qq3 : UInt64) (t0 : UInt64) (t1 : UInt64) (t2 : UInt64) (t3 : UInt64) (h0 : Heap) (n0 : Nat) (v9 : Option Value) (h9 : Heap) (L9 : List Loc) : Prop := v9 = none ∧ Fr n0 L9 ∧ Keep h0 h9 [a, ph, pl] ∧ Exa Z h9 a "com/example/arbor_center/arborcenter/objective/UpperEnvelope" ∧ Fld Z h9 a "com/example/arbor_center/arborcenter/objective/UpperEnvelope" "halfPoints" "[D" (.ref ph) ∧ Fld Z h9 a "com/example/arbor_center/arborcenter/objective/UpperEnvelope" "count" "I" (.int (3 : Int32)) ∧ Fld Z h9 a "com/example/arbor_center/arborcenter/objective/UpperEnvelope" "lines" "[D" (.ref pl) ∧ Arv Z h9 ph k1 .double (4 : Int32) [(.double (FP.ddiv t0 (4611686018427387904 : UInt64))), (.double (FP.ddiv t1 (4611686018427387904 : UInt64))), (.double (FP.ddiv t2 (4611686018427387904 : UInt64))), (.double qq3)] (.double (0 : UInt64)) ∧ Arv Z h9 pl k2 .double (14 : Int32) ((((((((((ls.set 0 (.double FP.dconst0)).set 1 (.double FP.dconst0)).set 2 (.double FP.dconst0)).set 3 (.double FP.dconst0)).set 4 (.double FP.dconst0)).set 5 (.double FP.dconst0)).set 6 (.double FP.dconst0)).set 7 (.double FP.dconst0)).set 8 (.double FP.dconst0)).set 9 (.double FP.dconst0)) (.double (0 : UInt64))
set_option maxRecDepth 65536 in
set_option maxHeartbeats 40000000 in
theorem rm5_3 (l : Launch) (Z : State) (a0 : Array Value) (hw : ∀ d ∈ tables_1, d.before a0 Z = true) (ws : List Jvm.Cond) (a : Addr) (pt : Addr) (cn : Int32) (ph : Addr) (pl : Addr) (k1 : ClassId) (k2 : ClassId) (k3 : ClassId) (oc : Int32) (ls : List Value) (qq0 : UInt64) (qq1 : UInt64) (qq2 : UInt64) (qq3 : UInt64) (t0 : UInt64) (t1 : UInt64) (t2 : UInt64) (t3 : UInt64) (h0 : Heap) (n0 : Nat) (Z0 : n0 ≤ h0.size) (Exa_0 : Exa Z h0 a "com/example/arbor_center/arborcenter/objective/UpperEnvelope") (Fld_1 : Fld Z h0 a "com/example/arbor_center/arborcenter/objective/UpperEnvelope" "halfPoints" "[D" (.ref ph)) (Fld_2 : Fld Z h0 a "com/example/arbor_center/arborcenter/objective/UpperEnvelope" "count" "I" (.int oc)) (Fld_3 : Fld Z h0 a "com/example/arbor_center/arborcenter/objective/UpperEnvelope" "lines" "[D" (.ref pl)) (Arv_4 : Arv Z h0 ph k1 .double (4 : Int32) [(.double qq0), (.double qq1), (.double qq2), (.double qq3)] (.double (0 : UInt64))) (Arv_5 : Arv Z h0 pl k2 .double (14 : Int32) ls (.double (0 : UInt64))) (Arv_6 : Arv Z h0 pt k3 .double (4 : Int32) [(.double t0), (.double t1), (.double t2), (.double t3)] (.double (0 : UInt64))) (ge_7 : n0 ≤ a) (ge_8 : n0 ≤ ph) (ge_9 : n0 ≤ pl) (ne_10 : a ≠ ph) (ne_11 : a ≠ pl) (ne_12 : ph ≠ pl) (ne_13 : pt ≠ a) (ne_14 : pt ≠ ph) (ne_15 : pt ≠ pl) (hcn : (cn = (3 : Int32))) (hlen : (ls.length = 14)) (ht0 : (∃ q : Int, FP.Core.DInt q t0 ∧ 0 ≤ q ∧ q ≤ 65536)) (ht1 : (∃ q : Int, FP.Core.DInt q t1 ∧ 0 ≤ q ∧ q ≤ 65536)) (ht2 : (∃ q : Int, FP.Core.DInt q t2 ∧ 0 ≤ q ∧ q ≤ 65536)) :
    MetFree l (⟨"com/example/arbor_center/arborcenter/objective/UpperEnvelope", "reset", "([DI)V"⟩ : MethodName) (head1 (Jvm.Cond.code (⟨"com/example/arbor_center/arborcenter/objective/UpperEnvelope", "reset", "([DI)V"⟩ : MethodName) prog_12_method_2_code 4 none :: ws) ({ frames := 0, cells := 0, slots := 0, locals := 0 } : Room)) (fun A9 U9 => A9 = #[(.ref a), (.ref pt), (.int cn)] ∧ Z.Warmed39 U9.vm ∧ U9.heap = h0) (fun _ _ _ _ _ => True) (fun _ U9 o9 V9 => ∃ v9 L9, o9 = .returned v9 ∧ (Q5_3 Z a pt cn ph pl k1 k2 k3 oc ls qq0 qq1 qq2 qq3 t0 t1 t2 t3 h0 n0) v9 V9.heap L9 ∧ FrameEnd U9 o9 V9 L9 ({ frames := 0, cells := 0, slots := 0, locals := 0 } : Room).cells ({ frames := 0, cells := 0, slots := 0, locals := 0 } : Room).slots) := by
  refine met_of (Q := (Q5_3 Z a pt cn ph pl k1 k2 k3 oc ls qq0 qq1 qq2 qq3 t0 t1 t2 t3 h0 n0)) pn_5 ?_
  intro p e s m below meth c T0 C X0 e0
  have N0 := Fr.nil n0
  refine Go.cast (ef_5_3 m a pt cn) ?_
  subst hcn
  refine waloadN C X0 f5_0 rfl rfl ?_
  refine wiloadN C X0 f5_1 rfl ?_
  refine wput C X0 (host := "") (Or.inl (tw_29 hw)) Via.refl e0 Fld_2 Exa_0 (Or.inl (tw_30 hw)) (tw_12 hw) (ty := .int) (by decide) rfl rfl f5_2 ?_
  intro T1 h1 X1 e1 W1
  have Fw1 := Fld_2.same W1
  have N1 := Fr.snoc X1 N0 ge_7
  refine wiconst C X1 f5_5 (0 : Int32) rfl ?_
  refine wistoreN C X1 f5_6 #[.val (.ref a), .val (.ref pt), .val (.int (3 : Int32)), .val (.int (0 : Int32))] rfl ?_
  refine wiloadN C X1 f5_7 rfl ?_
  refine wiloadN C X1 f5_8 rfl ?_
  refine wicmp_ge C X1 f5_9 ?_ (fun q => absurd (by decide : ((0 : Int32) < (3 : Int32))) q)
  intro _
  refine waloadN C X1 f5_12 rfl rfl ?_
  have q2 := (Fld_1.other W1 (Or.inr (slot_ne (Or.inr (tw_21 hw)) (Or.inl (tw_30 hw)) (by decide) (t := (.array .double)) (t' := .int) (by decide) (by decide))))
  refine wget C X1 (host := "") (Or.inl (tw_20 hw)) Via.refl e1 q2 f5_13 ?_
  intro T3 X3 e3
  refine wiloadN C X3 f5_16 rfl ?_
  refine waloadN C X3 f5_17 rfl rfl ?_
  refine wiloadN C X3 f5_18 rfl ?_
  refine wdaload C X3 e3 (Arv_6.other W1 ne_13) f5_19 ⟨by decide, by decide⟩ (i := 0) rfl (v := t0) rfl ?_
  refine wldc2D C X3 (tw_31 hw) f5_20 ?_
  refine wddiv C X3 f5_23 (v := (FP.ddiv t0 (4611686018427387904 : UInt64))) rfl (own_tn ht0) ?_
  refine wdastore C X3 e3 (Arv_4.other W1 (Ne.symm ne_10)) f5_24 ⟨by decide, by decide⟩ 0 rfl (show (0 : Nat) < 4 by decide) [(.double (FP.ddiv t0 (4611686018427387904 : UInt64))), (.double qq1), (.double qq2), (.double qq3)] rfl ?_
  intro T4 h4 sl4 w4 X4 e4 W4 V4
  have N4 := Fr.snoc X4 N1 ge_8
  refine wiinc C X4 f5_25 (1 : Int32) (by decide) rfl #[.val (.ref a), .val (.ref pt), .val (.int (3 : Int32)), .val (.int (1 : Int32))] rfl ?_
  refine wgoto C X4 f5_28 ?_
  refine wiloadN C X4 f5_7 rfl ?_
  refine wiloadN C X4 f5_8 rfl ?_
  refine wicmp_ge C X4 f5_9 ?_ (fun q => absurd (by decide : ((1 : Int32) < (3 : Int32))) q)
  intro _
  refine waloadN C X4 f5_12 rfl rfl ?_
  refine wget C X4 (host := "") (Or.inl (tw_20 hw)) Via.refl e4 (q2.other W4 (Or.inl ne_10)) f5_13 ?_
  intro T5 X5 e5
  refine wiloadN C X5 f5_16 rfl ?_
  refine waloadN C X5 f5_17 rfl rfl ?_
  refine wiloadN C X5 f5_18 rfl ?_
  refine wdaload C X5 e5 ((Arv_6.other W1 ne_13).other W4 ne_14) f5_19 ⟨by decide, by decide⟩ (i := 1) rfl (v := t1) rfl ?_
  refine wldc2D C X5 (tw_31 hw) f5_20 ?_
  refine wddiv C X5 f5_23 (v := (FP.ddiv t1 (4611686018427387904 : UInt64))) rfl (own_tn ht1) ?_
  refine wdastore C X5 e5 V4 f5_24 ⟨by decide, by decide⟩ 1 rfl (show (1 : Nat) < 4 by decide) [(.double (FP.ddiv t0 (4611686018427387904 : UInt64))), (.double (FP.ddiv t1 (4611686018427387904 : UInt64))), (.double qq2), (.double qq3)] rfl ?_
  intro T6 h6 sl6 w6 X6 e6 W6 V6
  have N6 := Fr.snoc X6 N4 ge_8
  refine wiinc C X6 f5_25 (2 : Int32) (by decide) rfl #[.val (.ref a), .val (.ref pt), .val (.int (3 : Int32)), .val (.int (2 : Int32))] rfl ?_
  refine wgoto C X6 f5_28 ?_
  refine wiloadN C X6 f5_7 rfl ?_
  refine wiloadN C X6 f5_8 rfl ?_
  refine wicmp_ge C X6 f5_9 ?_ (fun q => absurd (by decide : ((2 : Int32) < (3 : Int32))) q)
  intro _
  refine waloadN C X6 f5_12 rfl rfl ?_
  refine wget C X6 (host := "") (Or.inl (tw_20 hw)) Via.refl e6 ((q2.other W4 (Or.inl ne_10)).other W6 (Or.inl ne_10)) f5_13 ?_
  intro T7 X7 e7
  refine wiloadN C X7 f5_16 rfl ?_
  refine waloadN C X7 f5_17 rfl rfl ?_
  refine wiloadN C X7 f5_18 rfl ?_
  refine wdaload C X7 e7 (((Arv_6.other W1 ne_13).other W4 ne_14).other W6 ne_14) f5_19 ⟨by decide, by decide⟩ (i := 2) rfl (v := t2) rfl ?_
  refine wldc2D C X7 (tw_31 hw) f5_20 ?_
  refine wddiv C X7 f5_23 (v := (FP.ddiv t2 (4611686018427387904 : UInt64))) rfl (own_tn ht2) ?_
  refine wdastore C X7 e7 V6 f5_24 ⟨by decide, by decide⟩ 2 rfl (show (2 : Nat) < 4 by decide) [(.double (FP.ddiv t0 (4611686018427387904 : UInt64))), (.double (FP.ddiv t1 (4611686018427387904 : UInt64))), (.double (FP.ddiv t2 (4611686018427387904 : UInt64))), (.double qq3)] rfl ?_
  intro T8 h8 sl8 w8 X8 e8 W8 V8
  have N8 := Fr.snoc X8 N6 ge_8
  refine wiinc C X8 f5_25 (3 : Int32) (by decide) rfl #[.val (.ref a), .val (.ref pt), .val (.int (3 : Int32)), .val (.int (3 : Int32))] rfl ?_
  refine wgoto C X8 f5_28 ?_
  refine wiloadN C X8 f5_7 rfl ?_
  refine wiloadN C X8 f5_8 rfl ?_
  refine wicmp_ge C X8 f5_9 (fun q => absurd q (by decide : ¬ ((3 : Int32) < (3 : Int32)))) ?_
  intro _
  refine wiconst C X8 f5_31 (0 : Int32) rfl ?_
  refine wistoreN C X8 f5_32 #[.val (.ref a), .val (.ref pt), .val (.int (3 : Int32)), .val (.int (0 : Int32))] rfl ?_
  refine wiloadN C X8 f5_33 rfl ?_
  refine wiconst C X8 f5_34 (2 : Int32) rfl ?_
  refine wiconst C X8 f5_35 (2 : Int32) rfl ?_
  refine wiloadN C X8 f5_36 rfl ?_
  refine wimul C X8 f5_37 ?_
  refine own_foldI (z := (6 : Int32)) (by decide) ?_
  refine wiconst C X8 f5_38 (1 : Int32) rfl ?_
  refine wisub C X8 f5_39 ?_
  refine own_foldI (z := (5 : Int32)) (by decide) ?_
  refine wimul C X8 f5_40 ?_
  refine own_foldI (z := (10 : Int32)) (by decide) ?_
  refine wicmp_ge C X8 f5_41 ?_ (fun q => absurd (by decide : ((0 : Int32) < (10 : Int32))) q)
  intro _
  refine waloadN C X8 f5_44 rfl rfl ?_
  have q9 := ((((Fld_3.other W1 (Or.inr (slot_ne (Or.inr (tw_23 hw)) (Or.inl (tw_30 hw)) (by decide) (t := (.array .double)) (t' := .int) (by decide) (by decide)))).other W4 (Or.inl ne_10)).other W6 (Or.inl ne_10)).other W8 (Or.inl ne_10))
  refine wget C X8 (host := "") (Or.inl (tw_22 hw)) Via.refl e8 q9 f5_45 ?_
  intro T10 X10 e10
  refine wiloadN C X10 f5_48 rfl ?_
  refine wdconst0 C X10 f5_49 ?_
  have q11 := ((((Arv_5.other W1 (Ne.symm ne_11)).other W4 (Ne.symm ne_12)).other W6 (Ne.symm ne_12)).other W8 (Ne.symm ne_12))
  refine wdastore C X10 e10 q11 f5_50 ⟨by decide, by decide⟩ 0 rfl (by rw [hlen]; decide) (ls.set 0 (.double FP.dconst0)) rfl ?_
  intro T12 h12 sl12 w12 X12 e12 W12 V12
  have N12 := Fr.snoc X12 N8 ge_9
  refine wiinc C X12 f5_51 (1 : Int32) (by decide) rfl #[.val (.ref a), .val (.ref pt), .val (.int (3 : Int32)), .val (.int (1 : Int32))] rfl ?_
  refine wgoto C X12 f5_54 ?_
  refine wiloadN C X12 f5_33 rfl ?_
  refine wiconst C X12 f5_34 (2 : Int32) rfl ?_
  refine wiconst C X12 f5_35 (2 : Int32) rfl ?_
  refine wiloadN C X12 f5_36 rfl ?_
  refine wimul C X12 f5_37 ?_
  refine own_foldI (z := (6 : Int32)) (by decide) ?_
  refine wiconst C X12 f5_38 (1 : Int32) rfl ?_
  refine wisub C X12 f5_39 ?_
  refine own_foldI (z := (5 : Int32)) (by decide) ?_
  refine wimul C X12 f5_40 ?_
  refine own_foldI (z := (10 : Int32)) (by decide) ?_
  refine wicmp_ge C X12 f5_41 ?_ (fun q => absurd (by decide : ((1 : Int32) < (10 : Int32))) q)
  intro _
  refine waloadN C X12 f5_44 rfl rfl ?_
  refine wget C X12 (host := "") (Or.inl (tw_22 hw)) Via.refl e12 (q9.other W12 (Or.inl ne_11)) f5_45 ?_
  intro T13 X13 e13
  refine wiloadN C X13 f5_48 rfl ?_
  refine wdconst0 C X13 f5_49 ?_
  refine wdastore C X13 e13 V12 f5_50 ⟨by decide, by decide⟩ 1 rfl (by rw [List.length_set, hlen]; decide) ((ls.set 0 (.double FP.dconst0)).set 1 (.double FP.dconst0)) rfl ?_
  intro T14 h14 sl14 w14 X14 e14 W14 V14
  have N14 := Fr.snoc X14 N12 ge_9
  refine wiinc C X14 f5_51 (2 : Int32) (by decide) rfl #[.val (.ref a), .val (.ref pt), .val (.int (3 : Int32)), .val (.int (2 : Int32))] rfl ?_
  refine wgoto C X14 f5_54 ?_
  refine wiloadN C X14 f5_33 rfl ?_
  refine wiconst C X14 f5_34 (2 : Int32) rfl ?_
  refine wiconst C X14 f5_35 (2 : Int32) rfl ?_
  refine wiloadN C X14 f5_36 rfl ?_
  refine wimul C X14 f5_37 ?_
  refine own_foldI (z := (6 : Int32)) (by decide) ?_
  refine wiconst C X14 f5_38 (1 : Int32) rfl ?_
  refine wisub C X14 f5_39 ?_
  refine own_foldI (z := (5 : Int32)) (by decide) ?_
  refine wimul C X14 f5_40 ?_
  refine own_foldI (z := (10 : Int32)) (by decide) ?_
  refine wicmp_ge C X14 f5_41 ?_ (fun q => absurd (by decide : ((2 : Int32) < (10 : Int32))) q)
  intro _
  refine waloadN C X14 f5_44 rfl rfl ?_
  refine wget C X14 (host := "") (Or.inl (tw_22 hw)) Via.refl e14 ((q9.other W12 (Or.inl ne_11)).other W14 (Or.inl ne_11)) f5_45 ?_
  intro T15 X15 e15
  refine wiloadN C X15 f5_48 rfl ?_
  refine wdconst0 C X15 f5_49 ?_
  refine wdastore C X15 e15 V14 f5_50 ⟨by decide, by decide⟩ 2 rfl (by rw [List.length_set, List.length_set, hlen]; decide) (((ls.set 0 (.double FP.dconst0)).set 1 (.double FP.dconst0)).set 2 (.double FP.dconst0)) rfl ?_
  intro T16 h16 sl16 w16 X16 e16 W16 V16
  have N16 := Fr.snoc X16 N14 ge_9
  refine wiinc C X16 f5_51 (3 : Int32) (by decide) rfl #[.val (.ref a), .val (.ref pt), .val (.int (3 : Int32)), .val (.int (3 : Int32))] rfl ?_
  refine wgoto C X16 f5_54 ?_
  refine wiloadN C X16 f5_33 rfl ?_
  refine wiconst C X16 f5_34 (2 : Int32) rfl ?_
  refine wiconst C X16 f5_35 (2 : Int32) rfl ?_
  refine wiloadN C X16 f5_36 rfl ?_
  refine wimul C X16 f5_37 ?_
  refine own_foldI (z := (6 : Int32)) (by decide) ?_
  refine wiconst C X16 f5_38 (1 : Int32) rfl ?_
  refine wisub C X16 f5_39 ?_
  refine own_foldI (z := (5 : Int32)) (by decide) ?_
  refine wimul C X16 f5_40 ?_
  refine own_foldI (z := (10 : Int32)) (by decide) ?_
  refine wicmp_ge C X16 f5_41 ?_ (fun q => absurd (by decide : ((3 : Int32) < (10 : Int32))) q)
  intro _
  refine waloadN C X16 f5_44 rfl rfl ?_
  have q17 := (((q9.other W12 (Or.inl ne_11)).other W14 (Or.inl ne_11)).other W16 (Or.inl ne_11))
  refine wget C X16 (host := "") (Or.inl (tw_22 hw)) Via.refl e16 q17 f5_45 ?_
  intro T18 X18 e18
  refine wiloadN C X18 f5_48 rfl ?_
  refine wdconst0 C X18 f5_49 ?_
  refine wdastore C X18 e18 V16 f5_50 ⟨by decide, by decide⟩ 3 rfl (by rw [List.length_set, List.length_set, List.length_set, hlen]; decide) ((((ls.set 0 (.double FP.dconst0)).set 1 (.double FP.dconst0)).set 2 (.double FP.dconst0)).set 3 (.double FP.dconst0)) rfl ?_
  intro T19 h19 sl19 w19 X19 e19 W19 V19
  have N19 := Fr.snoc X19 N16 ge_9
  refine wiinc C X19 f5_51 (4 : Int32) (by decide) rfl #[.val (.ref a), .val (.ref pt), .val (.int (3 : Int32)), .val (.int (4 : Int32))] rfl ?_
  refine wgoto C X19 f5_54 ?_
  refine wiloadN C X19 f5_33 rfl ?_
  refine wiconst C X19 f5_34 (2 : Int32) rfl ?_
  refine wiconst C X19 f5_35 (2 : Int32) rfl ?_
  refine wiloadN C X19 f5_36 rfl ?_
  refine wimul C X19 f5_37 ?_
  refine own_foldI (z := (6 : Int32)) (by decide) ?_
  refine wiconst C X19 f5_38 (1 : Int32) rfl ?_
  refine wisub C X19 f5_39 ?_
  refine own_foldI (z := (5 : Int32)) (by decide) ?_
  refine wimul C X19 f5_40 ?_
  refine own_foldI (z := (10 : Int32)) (by decide) ?_
  refine wicmp_ge C X19 f5_41 ?_ (fun q => absurd (by decide : ((4 : Int32) < (10 : Int32))) q)
  intro _
  refine waloadN C X19 f5_44 rfl rfl ?_
  refine wget C X19 (host := "") (Or.inl (tw_22 hw)) Via.refl e19 (q17.other W19 (Or.inl ne_11)) f5_45 ?_
  intro T20 X20 e20
  refine wiloadN C X20 f5_48 rfl ?_
  refine wdconst0 C X20 f5_49 ?_
  refine wdastore C X20 e20 V19 f5_50 ⟨by decide, by decide⟩ 4 rfl (by rw [List.length_set, List.length_set, List.length_set, List.length_set, hlen]; decide) (((((ls.set 0 (.double FP.dconst0)).set 1 (.double FP.dconst0)).set 2 (.double FP.dconst0)).set 3 (.double FP.dconst0)).set 4 (.double FP.dconst0)) rfl ?_
  intro T21 h21 sl21 w21 X21 e21 W21 V21
  have N21 := Fr.snoc X21 N19 ge_9
  refine wiinc C X21 f5_51 (5 : Int32) (by decide) rfl #[.val (.ref a), .val (.ref pt), .val (.int (3 : Int32)), .val (.int (5 : Int32))] rfl ?_
  refine wgoto C X21 f5_54 ?_
  refine wiloadN C X21 f5_33 rfl ?_
  refine wiconst C X21 f5_34 (2 : Int32) rfl ?_
  refine wiconst C X21 f5_35 (2 : Int32) rfl ?_
  refine wiloadN C X21 f5_36 rfl ?_
  refine wimul C X21 f5_37 ?_
  refine own_foldI (z := (6 : Int32)) (by decide) ?_
  refine wiconst C X21 f5_38 (1 : Int32) rfl ?_
  refine wisub C X21 f5_39 ?_
  refine own_foldI (z := (5 : Int32)) (by decide) ?_
  refine wimul C X21 f5_40 ?_
  refine own_foldI (z := (10 : Int32)) (by decide) ?_
  refine wicmp_ge C X21 f5_41 ?_ (fun q => absurd (by decide : ((5 : Int32) < (10 : Int32))) q)
  intro _
  refine waloadN C X21 f5_44 rfl rfl ?_
  refine wget C X21 (host := "") (Or.inl (tw_22 hw)) Via.refl e21 ((q17.other W19 (Or.inl ne_11)).other W21 (Or.inl ne_11)) f5_45 ?_
  intro T22 X22 e22
  refine wiloadN C X22 f5_48 rfl ?_
  refine wdconst0 C X22 f5_49 ?_
  refine wdastore C X22 e22 V21 f5_50 ⟨by decide, by decide⟩ 5 rfl (by rw [List.length_set, List.length_set, List.length_set, List.length_set, List.length_set, hlen]; decide) ((((((ls.set 0 (.double FP.dconst0)).set 1 (.double FP.dconst0)).set 2 (.double FP.dconst0)).set 3 (.double FP.dconst0)).set 4 (.double FP.dconst0)).set 5 (.double FP.dconst0)) rfl ?_
  intro T23 h23 sl23 w23 X23 e23 W23 V23
  have N23 := Fr.snoc X23 N21 ge_9
  refine wiinc C X23 f5_51 (6 : Int32) (by decide) rfl #[.val (.ref a), .val (.ref pt), .val (.int (3 : Int32)), .val (.int (6 : Int32))] rfl ?_
  refine wgoto C X23 f5_54 ?_
  refine wiloadN C X23 f5_33 rfl ?_
  refine wiconst C X23 f5_34 (2 : Int32) rfl ?_
  refine wiconst C X23 f5_35 (2 : Int32) rfl ?_
  refine wiloadN C X23 f5_36 rfl ?_
  refine wimul C X23 f5_37 ?_
  refine own_foldI (z := (6 : Int32)) (by decide) ?_
  refine wiconst C X23 f5_38 (1 : Int32) rfl ?_
  refine wisub C X23 f5_39 ?_
  refine own_foldI (z := (5 : Int32)) (by decide) ?_
  refine wimul C X23 f5_40 ?_
  refine own_foldI (z := (10 : Int32)) (by decide) ?_
  refine wicmp_ge C X23 f5_41 ?_ (fun q => absurd (by decide : ((6 : Int32) < (10 : Int32))) q)
  intro _
  refine waloadN C X23 f5_44 rfl rfl ?_
  have q24 := (((q17.other W19 (Or.inl ne_11)).other W21 (Or.inl ne_11)).other W23 (Or.inl ne_11))
  refine wget C X23 (host := "") (Or.inl (tw_22 hw)) Via.refl e23 q24 f5_45 ?_
  intro T25 X25 e25
  refine wiloadN C X25 f5_48 rfl ?_
  refine wdconst0 C X25 f5_49 ?_
  refine wdastore C X25 e25 V23 f5_50 ⟨by decide, by decide⟩ 6 rfl (by rw [List.length_set, List.length_set, List.length_set, List.length_set, List.length_set, List.length_set, hlen]; decide) (((((((ls.set 0 (.double FP.dconst0)).set 1 (.double FP.dconst0)).set 2 (.double FP.dconst0)).set 3 (.double FP.dconst0)).set 4 (.double FP.dconst0)).set 5 (.double FP.dconst0)).set 6 (.double FP.dconst0)) rfl ?_
  intro T26 h26 sl26 w26 X26 e26 W26 V26
  have N26 := Fr.snoc X26 N23 ge_9
  refine wiinc C X26 f5_51 (7 : Int32) (by decide) rfl #[.val (.ref a), .val (.ref pt), .val (.int (3 : Int32)), .val (.int (7 : Int32))] rfl ?_
  refine wgoto C X26 f5_54 ?_
  refine wiloadN C X26 f5_33 rfl ?_
  refine wiconst C X26 f5_34 (2 : Int32) rfl ?_
  refine wiconst C X26 f5_35 (2 : Int32) rfl ?_
  refine wiloadN C X26 f5_36 rfl ?_
  refine wimul C X26 f5_37 ?_
  refine own_foldI (z := (6 : Int32)) (by decide) ?_
  refine wiconst C X26 f5_38 (1 : Int32) rfl ?_
  refine wisub C X26 f5_39 ?_
  refine own_foldI (z := (5 : Int32)) (by decide) ?_
  refine wimul C X26 f5_40 ?_
  refine own_foldI (z := (10 : Int32)) (by decide) ?_
  refine wicmp_ge C X26 f5_41 ?_ (fun q => absurd (by decide : ((7 : Int32) < (10 : Int32))) q)
  intro _
  refine waloadN C X26 f5_44 rfl rfl ?_
  refine wget C X26 (host := "") (Or.inl (tw_22 hw)) Via.refl e26 (q24.other W26 (Or.inl ne_11)) f5_45 ?_
  intro T27 X27 e27
  refine wiloadN C X27 f5_48 rfl ?_
  refine wdconst0 C X27 f5_49 ?_
  refine wdastore C X27 e27 V26 f5_50 ⟨by decide, by decide⟩ 7 rfl (by rw [List.length_set, List.length_set, List.length_set, List.length_set, List.length_set, List.length_set, List.length_set, hlen]; decide) ((((((((ls.set 0 (.double FP.dconst0)).set 1 (.double FP.dconst0)).set 2 (.double FP.dconst0)).set 3 (.double FP.dconst0)).set 4 (.double FP.dconst0)).set 5 (.double FP.dconst0)).set 6 (.double FP.dconst0)).set 7 (.double FP.dconst0)) rfl ?_
  intro T28 h28 sl28 w28 X28 e28 W28 V28
  have N28 := Fr.snoc X28 N26 ge_9
  refine wiinc C X28 f5_51 (8 : Int32) (by decide) rfl #[.val (.ref a), .val (.ref pt), .val (.int (3 : Int32)), .val (.int (8 : Int32))] rfl ?_
  refine wgoto C X28 f5_54 ?_
  refine wiloadN C X28 f5_33 rfl ?_
  refine wiconst C X28 f5_34 (2 : Int32) rfl ?_
  refine wiconst C X28 f5_35 (2 : Int32) rfl ?_
  refine wiloadN C X28 f5_36 rfl ?_
  refine wimul C X28 f5_37 ?_
  refine own_foldI (z := (6 : Int32)) (by decide) ?_
  refine wiconst C X28 f5_38 (1 : Int32) rfl ?_
  refine wisub C X28 f5_39 ?_
  refine own_foldI (z := (5 : Int32)) (by decide) ?_
  refine wimul C X28 f5_40 ?_
  refine own_foldI (z := (10 : Int32)) (by decide) ?_
  refine wicmp_ge C X28 f5_41 ?_ (fun q => absurd (by decide : ((8 : Int32) < (10 : Int32))) q)
  intro _
  refine waloadN C X28 f5_44 rfl rfl ?_
  refine wget C X28 (host := "") (Or.inl (tw_22 hw)) Via.refl e28 ((q24.other W26 (Or.inl ne_11)).other W28 (Or.inl ne_11)) f5_45 ?_
  intro T29 X29 e29
  refine wiloadN C X29 f5_48 rfl ?_
  refine wdconst0 C X29 f5_49 ?_
  refine wdastore C X29 e29 V28 f5_50 ⟨by decide, by decide⟩ 8 rfl (by rw [List.length_set, List.length_set, List.length_set, List.length_set, List.length_set, List.length_set, List.length_set, List.length_set, hlen]; decide) (((((((((ls.set 0 (.double FP.dconst0)).set 1 (.double FP.dconst0)).set 2 (.double FP.dconst0)).set 3 (.double FP.dconst0)).set 4 (.double FP.dconst0)).set 5 (.double FP.dconst0)).set 6 (.double FP.dconst0)).set 7 (.double FP.dconst0)).set 8 (.double FP.dconst0)) rfl ?_
  intro T30 h30 sl30 w30 X30 e30 W30 V30
  have N30 := Fr.snoc X30 N28 ge_9
  refine wiinc C X30 f5_51 (9 : Int32) (by decide) rfl #[.val (.ref a), .val (.ref pt), .val (.int (3 : Int32)), .val (.int (9 : Int32))] rfl ?_
  refine wgoto C X30 f5_54 ?_
  refine wiloadN C X30 f5_33 rfl ?_
  refine wiconst C X30 f5_34 (2 : Int32) rfl ?_
  refine wiconst C X30 f5_35 (2 : Int32) rfl ?_
  refine wiloadN C X30 f5_36 rfl ?_
  refine wimul C X30 f5_37 ?_
  refine own_foldI (z := (6 : Int32)) (by decide) ?_
  refine wiconst C X30 f5_38 (1 : Int32) rfl ?_
  refine wisub C X30 f5_39 ?_
  refine own_foldI (z := (5 : Int32)) (by decide) ?_
  refine wimul C X30 f5_40 ?_
  refine own_foldI (z := (10 : Int32)) (by decide) ?_
  refine wicmp_ge C X30 f5_41 ?_ (fun q => absurd (by decide : ((9 : Int32) < (10 : Int32))) q)
  intro _
  refine waloadN C X30 f5_44 rfl rfl ?_
  have q31 := (((q24.other W26 (Or.inl ne_11)).other W28 (Or.inl ne_11)).other W30 (Or.inl ne_11))
  refine wget C X30 (host := "") (Or.inl (tw_22 hw)) Via.refl e30 q31 f5_45 ?_
  intro T32 X32 e32
  refine wiloadN C X32 f5_48 rfl ?_
  refine wdconst0 C X32 f5_49 ?_
  refine wdastore C X32 e32 V30 f5_50 ⟨by decide, by decide⟩ 9 rfl (by rw [List.length_set, List.length_set, List.length_set, List.length_set, List.length_set, List.length_set, List.length_set, List.length_set, List.length_set, hlen]; decide) ((((((((((ls.set 0 (.double FP.dconst0)).set 1 (.double FP.dconst0)).set 2 (.double FP.dconst0)).set 3 (.double FP.dconst0)).set 4 (.double FP.dconst0)).set 5 (.double FP.dconst0)).set 6 (.double FP.dconst0)).set 7 (.double FP.dconst0)).set 8 (.double FP.dconst0)).set 9 (.double FP.dconst0)) rfl ?_
  intro T33 h33 sl33 w33 X33 e33 W33 V33
  have N33 := Fr.snoc X33 N30 ge_9
  refine wiinc C X33 f5_51 (10 : Int32) (by decide) rfl #[.val (.ref a), .val (.ref pt), .val (.int (3 : Int32)), .val (.int (10 : Int32))] rfl ?_
  refine wgoto C X33 f5_54 ?_
  refine wiloadN C X33 f5_33 rfl ?_
  refine wiconst C X33 f5_34 (2 : Int32) rfl ?_
  refine wiconst C X33 f5_35 (2 : Int32) rfl ?_
  refine wiloadN C X33 f5_36 rfl ?_
  refine wimul C X33 f5_37 ?_
  refine own_foldI (z := (6 : Int32)) (by decide) ?_
  refine wiconst C X33 f5_38 (1 : Int32) rfl ?_
  refine wisub C X33 f5_39 ?_
  refine own_foldI (z := (5 : Int32)) (by decide) ?_
  refine wimul C X33 f5_40 ?_
  refine own_foldI (z := (10 : Int32)) (by decide) ?_
  refine wicmp_ge C X33 f5_41 (fun q => absurd q (by decide : ¬ ((10 : Int32) < (10 : Int32)))) ?_
  intro _
  refine wret C X33 f5_57 rfl (by decide) (by decide) ?_
  rw [e33]
  have q34 := (((((((((((((((Keep.refl h0 [a, ph, pl]).wr W1 (Or.inl (List.mem_of_getElem? (i := 0) rfl))).wr W4 (Or.inl (List.mem_of_getElem? (i := 1) rfl))).wr W6 (Or.inl (List.mem_of_getElem? (i := 1) rfl))).wr W8 (Or.inl (List.mem_of_getElem? (i := 1) rfl))).wr W12 (Or.inl (List.mem_of_getElem? (i := 2) rfl))).wr W14 (Or.inl (List.mem_of_getElem? (i := 2) rfl))).wr W16 (Or.inl (List.mem_of_getElem? (i := 2) rfl))).wr W19 (Or.inl (List.mem_of_getElem? (i := 2) rfl))).wr W21 (Or.inl (List.mem_of_getElem? (i := 2) rfl))).wr W23 (Or.inl (List.mem_of_getElem? (i := 2) rfl))).wr W26 (Or.inl (List.mem_of_getElem? (i := 2) rfl))).wr W28 (Or.inl (List.mem_of_getElem? (i := 2) rfl))).wr W30 (Or.inl (List.mem_of_getElem? (i := 2) rfl))).wr W33 (Or.inl (List.mem_of_getElem? (i := 2) rfl)))
  have q35 := ((((((((((((((Exa_0.wr W1).wr W4).wr W6).wr W8).wr W12).wr W14).wr W16).wr W19).wr W21).wr W23).wr W26).wr W28).wr W30).wr W33)
  have q36 := (((((((((((((q2.other W4 (Or.inl ne_10)).other W6 (Or.inl ne_10)).other W8 (Or.inl ne_10)).other W12 (Or.inl ne_11)).other W14 (Or.inl ne_11)).other W16 (Or.inl ne_11)).other W19 (Or.inl ne_11)).other W21 (Or.inl ne_11)).other W23 (Or.inl ne_11)).other W26 (Or.inl ne_11)).other W28 (Or.inl ne_11)).other W30 (Or.inl ne_11)).other W33 (Or.inl ne_11))
  have q37 := (((((((((((((Fw1.other W4 (Or.inl ne_10)).other W6 (Or.inl ne_10)).other W8 (Or.inl ne_10)).other W12 (Or.inl ne_11)).other W14 (Or.inl ne_11)).other W16 (Or.inl ne_11)).other W19 (Or.inl ne_11)).other W21 (Or.inl ne_11)).other W23 (Or.inl ne_11)).other W26 (Or.inl ne_11)).other W28 (Or.inl ne_11)).other W30 (Or.inl ne_11)).other W33 (Or.inl ne_11))
  have q38 := ((((((((((V8.other W12 ne_12).other W14 ne_12).other W16 ne_12).other W19 ne_12).other W21 ne_12).other W23 ne_12).other W26 ne_12).other W28 ne_12).other W30 ne_12).other W33 ne_12)
  exact ⟨rfl, N33, q34, q35, q36, q37, (q31.other W33 (Or.inl ne_11)), q38, V33⟩
theorem ef_5_4 (m : MethodId) (a : Addr) (pt : Addr) (cn : Int32) : entryFrame m #[(.ref a), (.ref pt), (.int cn)] 4 = mkF m 0 #[.val (.ref a), .val (.ref pt), .val (.int cn), .unset] [] := by first | (simp [entryFrame, mkF, argsToLocals, Value.category]; done) | rfl
def Q5_4 (Z : State) (a : Addr) (pt : Addr) (cn : Int32) (ph : Addr) (pl : Addr) (k1 : ClassId) (k2 : ClassId) (k3 : ClassId) (oc : Int32) (ls : List Value) (qq0 : UInt64) (qq1 : UInt64) (qq2 : UInt64) (qq3 : UInt64) (t0 : UInt64) (t1 : UInt64) (t2 : UInt64) (t3 : UInt64) (h0 : Heap) (n0 : Nat) (v9 : Option Value) (h9 : Heap) (L9 : List Loc) : Prop := v9 = none ∧ Fr n0 L9 ∧ Keep h0 h9 [a, ph, pl] ∧ Exa Z h9 a "com/example/arbor_center/arborcenter/objective/UpperEnvelope" ∧ Fld Z h9 a "com/example/arbor_center/arborcenter/objective/UpperEnvelope" "halfPoints" "[D" (.ref ph) ∧ Fld Z h9 a "com/example/arbor_center/arborcenter/objective/UpperEnvelope" "count" "I" (.int (4 : Int32)) ∧ Fld Z h9 a "com/example/arbor_center/arborcenter/objective/UpperEnvelope" "lines" "[D" (.ref pl) ∧ Arv Z h9 ph k1 .double (4 : Int32) [(.double (FP.ddiv t0 (4611686018427387904 : UInt64))), (.double (FP.ddiv t1 (4611686018427387904 : UInt64))), (.double (FP.ddiv t2 (4611686018427387904 : UInt64))), (.double (FP.ddiv t3 (4611686018427387904 : UInt64)))] (.double (0 : UInt64)) ∧ Arv Z h9 pl k2 .double (14 : Int32) ((((((((((((((ls.set 0 (.double FP.dconst0)).set 1 (.double FP.dconst0)).set 2 (.double FP.dconst0)).set 3 (.double FP.dconst0)).set 4 (.double FP.dconst0)).set 5 (.double FP.dconst0)).set 6 (.double FP.dconst0)).set 7 (.double FP.dconst0)).set 8 (.double FP.dconst0)).set 9 (.double FP.dconst0)).set 10 (.double FP.dconst0)).set 11 (.double FP.dconst0)).set 12 (.double FP.dconst0)).set 13 (.double FP.dconst0)) (.double (0 : UInt64))
set_option maxRecDepth 65536 in
set_option maxHeartbeats 40000000 in
theorem rm5_4 (l : Launch) (Z : State) (a0 : Array Value) (hw : ∀ d ∈ tables_1, d.before a0 Z = true) (ws : List Jvm.Cond) (a : Addr) (pt : Addr) (cn : Int32) (ph : Addr) (pl : Addr) (k1 : ClassId) (k2 : ClassId) (k3 : ClassId) (oc : Int32) (ls : List Value) (qq0 : UInt64) (qq1 : UInt64) (qq2 : UInt64) (qq3 : UInt64) (t0 : UInt64) (t1 : UInt64) (t2 : UInt64) (t3 : UInt64) (h0 : Heap) (n0 : Nat) (Z0 : n0 ≤ h0.size) (Exa_0 : Exa Z h0 a "com/example/arbor_center/arborcenter/objective/UpperEnvelope") (Fld_1 : Fld Z h0 a "com/example/arbor_center/arborcenter/objective/UpperEnvelope" "halfPoints" "[D" (.ref ph)) (Fld_2 : Fld Z h0 a "com/example/arbor_center/arborcenter/objective/UpperEnvelope" "count" "I" (.int oc)) (Fld_3 : Fld Z h0 a "com/example/arbor_center/arborcenter/objective/UpperEnvelope" "lines" "[D" (.ref pl)) (Arv_4 : Arv Z h0 ph k1 .double (4 : Int32) [(.double qq0), (.double qq1), (.double qq2), (.double qq3)] (.double (0 : UInt64))) (Arv_5 : Arv Z h0 pl k2 .double (14 : Int32) ls (.double (0 : UInt64))) (Arv_6 : Arv Z h0 pt k3 .double (4 : Int32) [(.double t0), (.double t1), (.double t2), (.double t3)] (.double (0 : UInt64))) (ge_7 : n0 ≤ a) (ge_8 : n0 ≤ ph) (ge_9 : n0 ≤ pl) (ne_10 : a ≠ ph) (ne_11 : a ≠ pl) (ne_12 : ph ≠ pl) (ne_13 : pt ≠ a) (ne_14 : pt ≠ ph) (ne_15 : pt ≠ pl) (hcn : (cn = (4 : Int32))) (hlen : (ls.length = 14)) (ht0 : (∃ q : Int, FP.Core.DInt q t0 ∧ 0 ≤ q ∧ q ≤ 65536)) (ht1 : (∃ q : Int, FP.Core.DInt q t1 ∧ 0 ≤ q ∧ q ≤ 65536)) (ht2 : (∃ q : Int, FP.Core.DInt q t2 ∧ 0 ≤ q ∧ q ≤ 65536)) (ht3 : (∃ q : Int, FP.Core.DInt q t3 ∧ 0 ≤ q ∧ q ≤ 65536)) :
    MetFree l (⟨"com/example/arbor_center/arborcenter/objective/UpperEnvelope", "reset", "([DI)V"⟩ : MethodName) (head1 (Jvm.Cond.code (⟨"com/example/arbor_center/arborcenter/objective/UpperEnvelope", "reset", "([DI)V"⟩ : MethodName) prog_12_method_2_code 4 none :: ws) ({ frames := 0, cells := 0, slots := 0, locals := 0 } : Room)) (fun A9 U9 => A9 = #[(.ref a), (.ref pt), (.int cn)] ∧ Z.Warmed39 U9.vm ∧ U9.heap = h0) (fun _ _ _ _ _ => True) (fun _ U9 o9 V9 => ∃ v9 L9, o9 = .returned v9 ∧ (Q5_4 Z a pt cn ph pl k1 k2 k3 oc ls qq0 qq1 qq2 qq3 t0 t1 t2 t3 h0 n0) v9 V9.heap L9 ∧ FrameEnd U9 o9 V9 L9 ({ frames := 0, cells := 0, slots := 0, locals := 0 } : Room).cells ({ frames := 0, cells := 0, slots := 0, locals := 0 } : Room).slots) := by
  refine met_of (Q := (Q5_4 Z a pt cn ph pl k1 k2 k3 oc ls qq0 qq1 qq2 qq3 t0 t1 t2 t3 h0 n0)) pn_5 ?_
  intro p e s m below meth c T0 C X0 e0
  have N0 := Fr.nil n0
  refine Go.cast (ef_5_4 m a pt cn) ?_
  subst hcn
  refine waloadN C X0 f5_0 rfl rfl ?_
  refine wiloadN C X0 f5_1 rfl ?_
  refine wput C X0 (host := "") (Or.inl (tw_29 hw)) Via.refl e0 Fld_2 Exa_0 (Or.inl (tw_30 hw)) (tw_12 hw) (ty := .int) (by decide) rfl rfl f5_2 ?_
  intro T1 h1 X1 e1 W1
  have Fw1 := Fld_2.same W1
  have N1 := Fr.snoc X1 N0 ge_7
  refine wiconst C X1 f5_5 (0 : Int32) rfl ?_
  refine wistoreN C X1 f5_6 #[.val (.ref a), .val (.ref pt), .val (.int (4 : Int32)), .val (.int (0 : Int32))] rfl ?_
  refine wiloadN C X1 f5_7 rfl ?_
  refine wiloadN C X1 f5_8 rfl ?_
  refine wicmp_ge C X1 f5_9 ?_ (fun q => absurd (by decide : ((0 : Int32) < (4 : Int32))) q)
  intro _
  refine waloadN C X1 f5_12 rfl rfl ?_
  have q2 := (Fld_1.other W1 (Or.inr (slot_ne (Or.inr (tw_21 hw)) (Or.inl (tw_30 hw)) (by decide) (t := (.array .double)) (t' := .int) (by decide) (by decide))))
  refine wget C X1 (host := "") (Or.inl (tw_20 hw)) Via.refl e1 q2 f5_13 ?_
  intro T3 X3 e3
  refine wiloadN C X3 f5_16 rfl ?_
  refine waloadN C X3 f5_17 rfl rfl ?_
  refine wiloadN C X3 f5_18 rfl ?_
  refine wdaload C X3 e3 (Arv_6.other W1 ne_13) f5_19 ⟨by decide, by decide⟩ (i := 0) rfl (v := t0) rfl ?_
  refine wldc2D C X3 (tw_31 hw) f5_20 ?_
  refine wddiv C X3 f5_23 (v := (FP.ddiv t0 (4611686018427387904 : UInt64))) rfl (own_tn ht0) ?_
  refine wdastore C X3 e3 (Arv_4.other W1 (Ne.symm ne_10)) f5_24 ⟨by decide, by decide⟩ 0 rfl (show (0 : Nat) < 4 by decide) [(.double (FP.ddiv t0 (4611686018427387904 : UInt64))), (.double qq1), (.double qq2), (.double qq3)] rfl ?_
  intro T4 h4 sl4 w4 X4 e4 W4 V4
  have N4 := Fr.snoc X4 N1 ge_8
  refine wiinc C X4 f5_25 (1 : Int32) (by decide) rfl #[.val (.ref a), .val (.ref pt), .val (.int (4 : Int32)), .val (.int (1 : Int32))] rfl ?_
  refine wgoto C X4 f5_28 ?_
  refine wiloadN C X4 f5_7 rfl ?_
  refine wiloadN C X4 f5_8 rfl ?_
  refine wicmp_ge C X4 f5_9 ?_ (fun q => absurd (by decide : ((1 : Int32) < (4 : Int32))) q)
  intro _
  refine waloadN C X4 f5_12 rfl rfl ?_
  refine wget C X4 (host := "") (Or.inl (tw_20 hw)) Via.refl e4 (q2.other W4 (Or.inl ne_10)) f5_13 ?_
  intro T5 X5 e5
  refine wiloadN C X5 f5_16 rfl ?_
  refine waloadN C X5 f5_17 rfl rfl ?_
  refine wiloadN C X5 f5_18 rfl ?_
  refine wdaload C X5 e5 ((Arv_6.other W1 ne_13).other W4 ne_14) f5_19 ⟨by decide, by decide⟩ (i := 1) rfl (v := t1) rfl ?_
  refine wldc2D C X5 (tw_31 hw) f5_20 ?_
  refine wddiv C X5 f5_23 (v := (FP.ddiv t1 (4611686018427387904 : UInt64))) rfl (own_tn ht1) ?_
  refine wdastore C X5 e5 V4 f5_24 ⟨by decide, by decide⟩ 1 rfl (show (1 : Nat) < 4 by decide) [(.double (FP.ddiv t0 (4611686018427387904 : UInt64))), (.double (FP.ddiv t1 (4611686018427387904 : UInt64))), (.double qq2), (.double qq3)] rfl ?_
  intro T6 h6 sl6 w6 X6 e6 W6 V6
  have N6 := Fr.snoc X6 N4 ge_8
  refine wiinc C X6 f5_25 (2 : Int32) (by decide) rfl #[.val (.ref a), .val (.ref pt), .val (.int (4 : Int32)), .val (.int (2 : Int32))] rfl ?_
  refine wgoto C X6 f5_28 ?_
  refine wiloadN C X6 f5_7 rfl ?_
  refine wiloadN C X6 f5_8 rfl ?_
  refine wicmp_ge C X6 f5_9 ?_ (fun q => absurd (by decide : ((2 : Int32) < (4 : Int32))) q)
  intro _
  refine waloadN C X6 f5_12 rfl rfl ?_
  refine wget C X6 (host := "") (Or.inl (tw_20 hw)) Via.refl e6 ((q2.other W4 (Or.inl ne_10)).other W6 (Or.inl ne_10)) f5_13 ?_
  intro T7 X7 e7
  refine wiloadN C X7 f5_16 rfl ?_
  refine waloadN C X7 f5_17 rfl rfl ?_
  refine wiloadN C X7 f5_18 rfl ?_
  refine wdaload C X7 e7 (((Arv_6.other W1 ne_13).other W4 ne_14).other W6 ne_14) f5_19 ⟨by decide, by decide⟩ (i := 2) rfl (v := t2) rfl ?_
  refine wldc2D C X7 (tw_31 hw) f5_20 ?_
  refine wddiv C X7 f5_23 (v := (FP.ddiv t2 (4611686018427387904 : UInt64))) rfl (own_tn ht2) ?_
  refine wdastore C X7 e7 V6 f5_24 ⟨by decide, by decide⟩ 2 rfl (show (2 : Nat) < 4 by decide) [(.double (FP.ddiv t0 (4611686018427387904 : UInt64))), (.double (FP.ddiv t1 (4611686018427387904 : UInt64))), (.double (FP.ddiv t2 (4611686018427387904 : UInt64))), (.double qq3)] rfl ?_
  intro T8 h8 sl8 w8 X8 e8 W8 V8
  have N8 := Fr.snoc X8 N6 ge_8
  refine wiinc C X8 f5_25 (3 : Int32) (by decide) rfl #[.val (.ref a), .val (.ref pt), .val (.int (4 : Int32)), .val (.int (3 : Int32))] rfl ?_
  refine wgoto C X8 f5_28 ?_
  refine wiloadN C X8 f5_7 rfl ?_
  refine wiloadN C X8 f5_8 rfl ?_
  refine wicmp_ge C X8 f5_9 ?_ (fun q => absurd (by decide : ((3 : Int32) < (4 : Int32))) q)
  intro _
  refine waloadN C X8 f5_12 rfl rfl ?_
  have q9 := (((q2.other W4 (Or.inl ne_10)).other W6 (Or.inl ne_10)).other W8 (Or.inl ne_10))
  refine wget C X8 (host := "") (Or.inl (tw_20 hw)) Via.refl e8 q9 f5_13 ?_
  intro T10 X10 e10
  refine wiloadN C X10 f5_16 rfl ?_
  refine waloadN C X10 f5_17 rfl rfl ?_
  refine wiloadN C X10 f5_18 rfl ?_
  have q11 := ((((Arv_6.other W1 ne_13).other W4 ne_14).other W6 ne_14).other W8 ne_14)
  refine wdaload C X10 e10 q11 f5_19 ⟨by decide, by decide⟩ (i := 3) rfl (v := t3) rfl ?_
  refine wldc2D C X10 (tw_31 hw) f5_20 ?_
  refine wddiv C X10 f5_23 (v := (FP.ddiv t3 (4611686018427387904 : UInt64))) rfl (own_tn ht3) ?_
  refine wdastore C X10 e10 V8 f5_24 ⟨by decide, by decide⟩ 3 rfl (show (3 : Nat) < 4 by decide) [(.double (FP.ddiv t0 (4611686018427387904 : UInt64))), (.double (FP.ddiv t1 (4611686018427387904 : UInt64))), (.double (FP.ddiv t2 (4611686018427387904 : UInt64))), (.double (FP.ddiv t3 (4611686018427387904 : UInt64)))] rfl ?_
  intro T12 h12 sl12 w12 X12 e12 W12 V12
  have N12 := Fr.snoc X12 N8 ge_8
  refine wiinc C X12 f5_25 (4 : Int32) (by decide) rfl #[.val (.ref a), .val (.ref pt), .val (.int (4 : Int32)), .val (.int (4 : Int32))] rfl ?_
  refine wgoto C X12 f5_28 ?_
  refine wiloadN C X12 f5_7 rfl ?_
  refine wiloadN C X12 f5_8 rfl ?_
  refine wicmp_ge C X12 f5_9 (fun q => absurd q (by decide : ¬ ((4 : Int32) < (4 : Int32)))) ?_
  intro _
  refine wiconst C X12 f5_31 (0 : Int32) rfl ?_
  refine wistoreN C X12 f5_32 #[.val (.ref a), .val (.ref pt), .val (.int (4 : Int32)), .val (.int (0 : Int32))] rfl ?_
  refine wiloadN C X12 f5_33 rfl ?_
  refine wiconst C X12 f5_34 (2 : Int32) rfl ?_
  refine wiconst C X12 f5_35 (2 : Int32) rfl ?_
  refine wiloadN C X12 f5_36 rfl ?_
  refine wimul C X12 f5_37 ?_
  refine own_foldI (z := (8 : Int32)) (by decide) ?_
  refine wiconst C X12 f5_38 (1 : Int32) rfl ?_
  refine wisub C X12 f5_39 ?_
  refine own_foldI (z := (7 : Int32)) (by decide) ?_
  refine wimul C X12 f5_40 ?_
  refine own_foldI (z := (14 : Int32)) (by decide) ?_
  refine wicmp_ge C X12 f5_41 ?_ (fun q => absurd (by decide : ((0 : Int32) < (14 : Int32))) q)
  intro _
  refine waloadN C X12 f5_44 rfl rfl ?_
  have q13 := (((((Fld_3.other W1 (Or.inr (slot_ne (Or.inr (tw_23 hw)) (Or.inl (tw_30 hw)) (by decide) (t := (.array .double)) (t' := .int) (by decide) (by decide)))).other W4 (Or.inl ne_10)).other W6 (Or.inl ne_10)).other W8 (Or.inl ne_10)).other W12 (Or.inl ne_10))
  refine wget C X12 (host := "") (Or.inl (tw_22 hw)) Via.refl e12 q13 f5_45 ?_
  intro T14 X14 e14
  refine wiloadN C X14 f5_48 rfl ?_
  refine wdconst0 C X14 f5_49 ?_
  have q15 := (((((Arv_5.other W1 (Ne.symm ne_11)).other W4 (Ne.symm ne_12)).other W6 (Ne.symm ne_12)).other W8 (Ne.symm ne_12)).other W12 (Ne.symm ne_12))
  refine wdastore C X14 e14 q15 f5_50 ⟨by decide, by decide⟩ 0 rfl (by rw [hlen]; decide) (ls.set 0 (.double FP.dconst0)) rfl ?_
  intro T16 h16 sl16 w16 X16 e16 W16 V16
  have N16 := Fr.snoc X16 N12 ge_9
  refine wiinc C X16 f5_51 (1 : Int32) (by decide) rfl #[.val (.ref a), .val (.ref pt), .val (.int (4 : Int32)), .val (.int (1 : Int32))] rfl ?_
  refine wgoto C X16 f5_54 ?_
  refine wiloadN C X16 f5_33 rfl ?_
  refine wiconst C X16 f5_34 (2 : Int32) rfl ?_
  refine wiconst C X16 f5_35 (2 : Int32) rfl ?_
  refine wiloadN C X16 f5_36 rfl ?_
  refine wimul C X16 f5_37 ?_
  refine own_foldI (z := (8 : Int32)) (by decide) ?_
  refine wiconst C X16 f5_38 (1 : Int32) rfl ?_
  refine wisub C X16 f5_39 ?_
  refine own_foldI (z := (7 : Int32)) (by decide) ?_
  refine wimul C X16 f5_40 ?_
  refine own_foldI (z := (14 : Int32)) (by decide) ?_
  refine wicmp_ge C X16 f5_41 ?_ (fun q => absurd (by decide : ((1 : Int32) < (14 : Int32))) q)
  intro _
  refine waloadN C X16 f5_44 rfl rfl ?_
  refine wget C X16 (host := "") (Or.inl (tw_22 hw)) Via.refl e16 (q13.other W16 (Or.inl ne_11)) f5_45 ?_
  intro T17 X17 e17
  refine wiloadN C X17 f5_48 rfl ?_
  refine wdconst0 C X17 f5_49 ?_
  refine wdastore C X17 e17 V16 f5_50 ⟨by decide, by decide⟩ 1 rfl (by rw [List.length_set, hlen]; decide) ((ls.set 0 (.double FP.dconst0)).set 1 (.double FP.dconst0)) rfl ?_
  intro T18 h18 sl18 w18 X18 e18 W18 V18
  have N18 := Fr.snoc X18 N16 ge_9
  refine wiinc C X18 f5_51 (2 : Int32) (by decide) rfl #[.val (.ref a), .val (.ref pt), .val (.int (4 : Int32)), .val (.int (2 : Int32))] rfl ?_
  refine wgoto C X18 f5_54 ?_
  refine wiloadN C X18 f5_33 rfl ?_
  refine wiconst C X18 f5_34 (2 : Int32) rfl ?_
  refine wiconst C X18 f5_35 (2 : Int32) rfl ?_
  refine wiloadN C X18 f5_36 rfl ?_
  refine wimul C X18 f5_37 ?_
  refine own_foldI (z := (8 : Int32)) (by decide) ?_
  refine wiconst C X18 f5_38 (1 : Int32) rfl ?_
  refine wisub C X18 f5_39 ?_
  refine own_foldI (z := (7 : Int32)) (by decide) ?_
  refine wimul C X18 f5_40 ?_
  refine own_foldI (z := (14 : Int32)) (by decide) ?_
  refine wicmp_ge C X18 f5_41 ?_ (fun q => absurd (by decide : ((2 : Int32) < (14 : Int32))) q)
  intro _
  refine waloadN C X18 f5_44 rfl rfl ?_
  refine wget C X18 (host := "") (Or.inl (tw_22 hw)) Via.refl e18 ((q13.other W16 (Or.inl ne_11)).other W18 (Or.inl ne_11)) f5_45 ?_
  intro T19 X19 e19
  refine wiloadN C X19 f5_48 rfl ?_
  refine wdconst0 C X19 f5_49 ?_
  refine wdastore C X19 e19 V18 f5_50 ⟨by decide, by decide⟩ 2 rfl (by rw [List.length_set, List.length_set, hlen]; decide) (((ls.set 0 (.double FP.dconst0)).set 1 (.double FP.dconst0)).set 2 (.double FP.dconst0)) rfl ?_
  intro T20 h20 sl20 w20 X20 e20 W20 V20
  have N20 := Fr.snoc X20 N18 ge_9
  refine wiinc C X20 f5_51 (3 : Int32) (by decide) rfl #[.val (.ref a), .val (.ref pt), .val (.int (4 : Int32)), .val (.int (3 : Int32))] rfl ?_
  refine wgoto C X20 f5_54 ?_
  refine wiloadN C X20 f5_33 rfl ?_
  refine wiconst C X20 f5_34 (2 : Int32) rfl ?_
  refine wiconst C X20 f5_35 (2 : Int32) rfl ?_
  refine wiloadN C X20 f5_36 rfl ?_
  refine wimul C X20 f5_37 ?_
  refine own_foldI (z := (8 : Int32)) (by decide) ?_
  refine wiconst C X20 f5_38 (1 : Int32) rfl ?_
  refine wisub C X20 f5_39 ?_
  refine own_foldI (z := (7 : Int32)) (by decide) ?_
  refine wimul C X20 f5_40 ?_
  refine own_foldI (z := (14 : Int32)) (by decide) ?_
  refine wicmp_ge C X20 f5_41 ?_ (fun q => absurd (by decide : ((3 : Int32) < (14 : Int32))) q)
  intro _
  refine waloadN C X20 f5_44 rfl rfl ?_
  have q21 := (((q13.other W16 (Or.inl ne_11)).other W18 (Or.inl ne_11)).other W20 (Or.inl ne_11))
  refine wget C X20 (host := "") (Or.inl (tw_22 hw)) Via.refl e20 q21 f5_45 ?_
  intro T22 X22 e22
  refine wiloadN C X22 f5_48 rfl ?_
  refine wdconst0 C X22 f5_49 ?_
  refine wdastore C X22 e22 V20 f5_50 ⟨by decide, by decide⟩ 3 rfl (by rw [List.length_set, List.length_set, List.length_set, hlen]; decide) ((((ls.set 0 (.double FP.dconst0)).set 1 (.double FP.dconst0)).set 2 (.double FP.dconst0)).set 3 (.double FP.dconst0)) rfl ?_
  intro T23 h23 sl23 w23 X23 e23 W23 V23
  have N23 := Fr.snoc X23 N20 ge_9
  refine wiinc C X23 f5_51 (4 : Int32) (by decide) rfl #[.val (.ref a), .val (.ref pt), .val (.int (4 : Int32)), .val (.int (4 : Int32))] rfl ?_
  refine wgoto C X23 f5_54 ?_
  refine wiloadN C X23 f5_33 rfl ?_
  refine wiconst C X23 f5_34 (2 : Int32) rfl ?_
  refine wiconst C X23 f5_35 (2 : Int32) rfl ?_
  refine wiloadN C X23 f5_36 rfl ?_
  refine wimul C X23 f5_37 ?_
  refine own_foldI (z := (8 : Int32)) (by decide) ?_
  refine wiconst C X23 f5_38 (1 : Int32) rfl ?_
  refine wisub C X23 f5_39 ?_
  refine own_foldI (z := (7 : Int32)) (by decide) ?_
  refine wimul C X23 f5_40 ?_
  refine own_foldI (z := (14 : Int32)) (by decide) ?_
  refine wicmp_ge C X23 f5_41 ?_ (fun q => absurd (by decide : ((4 : Int32) < (14 : Int32))) q)
  intro _
  refine waloadN C X23 f5_44 rfl rfl ?_
  refine wget C X23 (host := "") (Or.inl (tw_22 hw)) Via.refl e23 (q21.other W23 (Or.inl ne_11)) f5_45 ?_
  intro T24 X24 e24
  refine wiloadN C X24 f5_48 rfl ?_
  refine wdconst0 C X24 f5_49 ?_
  refine wdastore C X24 e24 V23 f5_50 ⟨by decide, by decide⟩ 4 rfl (by rw [List.length_set, List.length_set, List.length_set, List.length_set, hlen]; decide) (((((ls.set 0 (.double FP.dconst0)).set 1 (.double FP.dconst0)).set 2 (.double FP.dconst0)).set 3 (.double FP.dconst0)).set 4 (.double FP.dconst0)) rfl ?_
  intro T25 h25 sl25 w25 X25 e25 W25 V25
  have N25 := Fr.snoc X25 N23 ge_9
  refine wiinc C X25 f5_51 (5 : Int32) (by decide) rfl #[.val (.ref a), .val (.ref pt), .val (.int (4 : Int32)), .val (.int (5 : Int32))] rfl ?_
  refine wgoto C X25 f5_54 ?_
  refine wiloadN C X25 f5_33 rfl ?_
  refine wiconst C X25 f5_34 (2 : Int32) rfl ?_
  refine wiconst C X25 f5_35 (2 : Int32) rfl ?_
  refine wiloadN C X25 f5_36 rfl ?_
  refine wimul C X25 f5_37 ?_
  refine own_foldI (z := (8 : Int32)) (by decide) ?_
  refine wiconst C X25 f5_38 (1 : Int32) rfl ?_
  refine wisub C X25 f5_39 ?_
  refine own_foldI (z := (7 : Int32)) (by decide) ?_
  refine wimul C X25 f5_40 ?_
  refine own_foldI (z := (14 : Int32)) (by decide) ?_
  refine wicmp_ge C X25 f5_41 ?_ (fun q => absurd (by decide : ((5 : Int32) < (14 : Int32))) q)
  intro _
  refine waloadN C X25 f5_44 rfl rfl ?_
  refine wget C X25 (host := "") (Or.inl (tw_22 hw)) Via.refl e25 ((q21.other W23 (Or.inl ne_11)).other W25 (Or.inl ne_11)) f5_45 ?_
  intro T26 X26 e26
  refine wiloadN C X26 f5_48 rfl ?_
  refine wdconst0 C X26 f5_49 ?_
  refine wdastore C X26 e26 V25 f5_50 ⟨by decide, by decide⟩ 5 rfl (by rw [List.length_set, List.length_set, List.length_set, List.length_set, List.length_set, hlen]; decide) ((((((ls.set 0 (.double FP.dconst0)).set 1 (.double FP.dconst0)).set 2 (.double FP.dconst0)).set 3 (.double FP.dconst0)).set 4 (.double FP.dconst0)).set 5 (.double FP.dconst0)) rfl ?_
  intro T27 h27 sl27 w27 X27 e27 W27 V27
  have N27 := Fr.snoc X27 N25 ge_9
  refine wiinc C X27 f5_51 (6 : Int32) (by decide) rfl #[.val (.ref a), .val (.ref pt), .val (.int (4 : Int32)), .val (.int (6 : Int32))] rfl ?_
  refine wgoto C X27 f5_54 ?_
  refine wiloadN C X27 f5_33 rfl ?_
  refine wiconst C X27 f5_34 (2 : Int32) rfl ?_
  refine wiconst C X27 f5_35 (2 : Int32) rfl ?_
  refine wiloadN C X27 f5_36 rfl ?_
  refine wimul C X27 f5_37 ?_
  refine own_foldI (z := (8 : Int32)) (by decide) ?_
  refine wiconst C X27 f5_38 (1 : Int32) rfl ?_
  refine wisub C X27 f5_39 ?_
  refine own_foldI (z := (7 : Int32)) (by decide) ?_
  refine wimul C X27 f5_40 ?_
  refine own_foldI (z := (14 : Int32)) (by decide) ?_
  refine wicmp_ge C X27 f5_41 ?_ (fun q => absurd (by decide : ((6 : Int32) < (14 : Int32))) q)
  intro _
  refine waloadN C X27 f5_44 rfl rfl ?_
  have q28 := (((q21.other W23 (Or.inl ne_11)).other W25 (Or.inl ne_11)).other W27 (Or.inl ne_11))
  refine wget C X27 (host := "") (Or.inl (tw_22 hw)) Via.refl e27 q28 f5_45 ?_
  intro T29 X29 e29
  refine wiloadN C X29 f5_48 rfl ?_
  refine wdconst0 C X29 f5_49 ?_
  refine wdastore C X29 e29 V27 f5_50 ⟨by decide, by decide⟩ 6 rfl (by rw [List.length_set, List.length_set, List.length_set, List.length_set, List.length_set, List.length_set, hlen]; decide) (((((((ls.set 0 (.double FP.dconst0)).set 1 (.double FP.dconst0)).set 2 (.double FP.dconst0)).set 3 (.double FP.dconst0)).set 4 (.double FP.dconst0)).set 5 (.double FP.dconst0)).set 6 (.double FP.dconst0)) rfl ?_
  intro T30 h30 sl30 w30 X30 e30 W30 V30
  have N30 := Fr.snoc X30 N27 ge_9
  refine wiinc C X30 f5_51 (7 : Int32) (by decide) rfl #[.val (.ref a), .val (.ref pt), .val (.int (4 : Int32)), .val (.int (7 : Int32))] rfl ?_
  refine wgoto C X30 f5_54 ?_
  refine wiloadN C X30 f5_33 rfl ?_
  refine wiconst C X30 f5_34 (2 : Int32) rfl ?_
  refine wiconst C X30 f5_35 (2 : Int32) rfl ?_
  refine wiloadN C X30 f5_36 rfl ?_
  refine wimul C X30 f5_37 ?_
  refine own_foldI (z := (8 : Int32)) (by decide) ?_
  refine wiconst C X30 f5_38 (1 : Int32) rfl ?_
  refine wisub C X30 f5_39 ?_
  refine own_foldI (z := (7 : Int32)) (by decide) ?_
  refine wimul C X30 f5_40 ?_
  refine own_foldI (z := (14 : Int32)) (by decide) ?_
  refine wicmp_ge C X30 f5_41 ?_ (fun q => absurd (by decide : ((7 : Int32) < (14 : Int32))) q)
  intro _
  refine waloadN C X30 f5_44 rfl rfl ?_
  refine wget C X30 (host := "") (Or.inl (tw_22 hw)) Via.refl e30 (q28.other W30 (Or.inl ne_11)) f5_45 ?_
  intro T31 X31 e31
  refine wiloadN C X31 f5_48 rfl ?_
  refine wdconst0 C X31 f5_49 ?_
  refine wdastore C X31 e31 V30 f5_50 ⟨by decide, by decide⟩ 7 rfl (by rw [List.length_set, List.length_set, List.length_set, List.length_set, List.length_set, List.length_set, List.length_set, hlen]; decide) ((((((((ls.set 0 (.double FP.dconst0)).set 1 (.double FP.dconst0)).set 2 (.double FP.dconst0)).set 3 (.double FP.dconst0)).set 4 (.double FP.dconst0)).set 5 (.double FP.dconst0)).set 6 (.double FP.dconst0)).set 7 (.double FP.dconst0)) rfl ?_
  intro T32 h32 sl32 w32 X32 e32 W32 V32
  have N32 := Fr.snoc X32 N30 ge_9
  refine wiinc C X32 f5_51 (8 : Int32) (by decide) rfl #[.val (.ref a), .val (.ref pt), .val (.int (4 : Int32)), .val (.int (8 : Int32))] rfl ?_
  refine wgoto C X32 f5_54 ?_
  refine wiloadN C X32 f5_33 rfl ?_
  refine wiconst C X32 f5_34 (2 : Int32) rfl ?_
  refine wiconst C X32 f5_35 (2 : Int32) rfl ?_
  refine wiloadN C X32 f5_36 rfl ?_
  refine wimul C X32 f5_37 ?_
  refine own_foldI (z := (8 : Int32)) (by decide) ?_
  refine wiconst C X32 f5_38 (1 : Int32) rfl ?_
  refine wisub C X32 f5_39 ?_
  refine own_foldI (z := (7 : Int32)) (by decide) ?_
  refine wimul C X32 f5_40 ?_
  refine own_foldI (z := (14 : Int32)) (by decide) ?_
  refine wicmp_ge C X32 f5_41 ?_ (fun q => absurd (by decide : ((8 : Int32) < (14 : Int32))) q)
  intro _
  refine waloadN C X32 f5_44 rfl rfl ?_
  refine wget C X32 (host := "") (Or.inl (tw_22 hw)) Via.refl e32 ((q28.other W30 (Or.inl ne_11)).other W32 (Or.inl ne_11)) f5_45 ?_
  intro T33 X33 e33
  refine wiloadN C X33 f5_48 rfl ?_
  refine wdconst0 C X33 f5_49 ?_
  refine wdastore C X33 e33 V32 f5_50 ⟨by decide, by decide⟩ 8 rfl (by rw [List.length_set, List.length_set, List.length_set, List.length_set, List.length_set, List.length_set, List.length_set, List.length_set, hlen]; decide) (((((((((ls.set 0 (.double FP.dconst0)).set 1 (.double FP.dconst0)).set 2 (.double FP.dconst0)).set 3 (.double FP.dconst0)).set 4 (.double FP.dconst0)).set 5 (.double FP.dconst0)).set 6 (.double FP.dconst0)).set 7 (.double FP.dconst0)).set 8 (.double FP.dconst0)) rfl ?_
  intro T34 h34 sl34 w34 X34 e34 W34 V34
  have N34 := Fr.snoc X34 N32 ge_9
  refine wiinc C X34 f5_51 (9 : Int32) (by decide) rfl #[.val (.ref a), .val (.ref pt), .val (.int (4 : Int32)), .val (.int (9 : Int32))] rfl ?_
  refine wgoto C X34 f5_54 ?_
  refine wiloadN C X34 f5_33 rfl ?_
  refine wiconst C X34 f5_34 (2 : Int32) rfl ?_
  refine wiconst C X34 f5_35 (2 : Int32) rfl ?_
  refine wiloadN C X34 f5_36 rfl ?_
  refine wimul C X34 f5_37 ?_
  refine own_foldI (z := (8 : Int32)) (by decide) ?_
  refine wiconst C X34 f5_38 (1 : Int32) rfl ?_
  refine wisub C X34 f5_39 ?_
  refine own_foldI (z := (7 : Int32)) (by decide) ?_
  refine wimul C X34 f5_40 ?_
  refine own_foldI (z := (14 : Int32)) (by decide) ?_
  refine wicmp_ge C X34 f5_41 ?_ (fun q => absurd (by decide : ((9 : Int32) < (14 : Int32))) q)
  intro _
  refine waloadN C X34 f5_44 rfl rfl ?_
  have q35 := (((q28.other W30 (Or.inl ne_11)).other W32 (Or.inl ne_11)).other W34 (Or.inl ne_11))
  refine wget C X34 (host := "") (Or.inl (tw_22 hw)) Via.refl e34 q35 f5_45 ?_
  intro T36 X36 e36
  refine wiloadN C X36 f5_48 rfl ?_
  refine wdconst0 C X36 f5_49 ?_
  refine wdastore C X36 e36 V34 f5_50 ⟨by decide, by decide⟩ 9 rfl (by rw [List.length_set, List.length_set, List.length_set, List.length_set, List.length_set, List.length_set, List.length_set, List.length_set, List.length_set, hlen]; decide) ((((((((((ls.set 0 (.double FP.dconst0)).set 1 (.double FP.dconst0)).set 2 (.double FP.dconst0)).set 3 (.double FP.dconst0)).set 4 (.double FP.dconst0)).set 5 (.double FP.dconst0)).set 6 (.double FP.dconst0)).set 7 (.double FP.dconst0)).set 8 (.double FP.dconst0)).set 9 (.double FP.dconst0)) rfl ?_
  intro T37 h37 sl37 w37 X37 e37 W37 V37
  have N37 := Fr.snoc X37 N34 ge_9
  refine wiinc C X37 f5_51 (10 : Int32) (by decide) rfl #[.val (.ref a), .val (.ref pt), .val (.int (4 : Int32)), .val (.int (10 : Int32))] rfl ?_
  refine wgoto C X37 f5_54 ?_
  refine wiloadN C X37 f5_33 rfl ?_
  refine wiconst C X37 f5_34 (2 : Int32) rfl ?_
  refine wiconst C X37 f5_35 (2 : Int32) rfl ?_
  refine wiloadN C X37 f5_36 rfl ?_
  refine wimul C X37 f5_37 ?_
  refine own_foldI (z := (8 : Int32)) (by decide) ?_
  refine wiconst C X37 f5_38 (1 : Int32) rfl ?_
  refine wisub C X37 f5_39 ?_
  refine own_foldI (z := (7 : Int32)) (by decide) ?_
  refine wimul C X37 f5_40 ?_
  refine own_foldI (z := (14 : Int32)) (by decide) ?_
  refine wicmp_ge C X37 f5_41 ?_ (fun q => absurd (by decide : ((10 : Int32) < (14 : Int32))) q)
  intro _
  refine waloadN C X37 f5_44 rfl rfl ?_
  refine wget C X37 (host := "") (Or.inl (tw_22 hw)) Via.refl e37 (q35.other W37 (Or.inl ne_11)) f5_45 ?_
  intro T38 X38 e38
  refine wiloadN C X38 f5_48 rfl ?_
  refine wdconst0 C X38 f5_49 ?_
  refine wdastore C X38 e38 V37 f5_50 ⟨by decide, by decide⟩ 10 rfl (by rw [List.length_set, List.length_set, List.length_set, List.length_set, List.length_set, List.length_set, List.length_set, List.length_set, List.length_set, List.length_set, hlen]; decide) (((((((((((ls.set 0 (.double FP.dconst0)).set 1 (.double FP.dconst0)).set 2 (.double FP.dconst0)).set 3 (.double FP.dconst0)).set 4 (.double FP.dconst0)).set 5 (.double FP.dconst0)).set 6 (.double FP.dconst0)).set 7 (.double FP.dconst0)).set 8 (.double FP.dconst0)).set 9 (.double FP.dconst0)).set 10 (.double FP.dconst0)) rfl ?_
  intro T39 h39 sl39 w39 X39 e39 W39 V39
  have N39 := Fr.snoc X39 N37 ge_9
  refine wiinc C X39 f5_51 (11 : Int32) (by decide) rfl #[.val (.ref a), .val (.ref pt), .val (.int (4 : Int32)), .val (.int (11 : Int32))] rfl ?_
  refine wgoto C X39 f5_54 ?_
  refine wiloadN C X39 f5_33 rfl ?_
  refine wiconst C X39 f5_34 (2 : Int32) rfl ?_
  refine wiconst C X39 f5_35 (2 : Int32) rfl ?_
  refine wiloadN C X39 f5_36 rfl ?_
  refine wimul C X39 f5_37 ?_
  refine own_foldI (z := (8 : Int32)) (by decide) ?_
  refine wiconst C X39 f5_38 (1 : Int32) rfl ?_
  refine wisub C X39 f5_39 ?_
  refine own_foldI (z := (7 : Int32)) (by decide) ?_
  refine wimul C X39 f5_40 ?_
  refine own_foldI (z := (14 : Int32)) (by decide) ?_
  refine wicmp_ge C X39 f5_41 ?_ (fun q => absurd (by decide : ((11 : Int32) < (14 : Int32))) q)
  intro _
  refine waloadN C X39 f5_44 rfl rfl ?_
  refine wget C X39 (host := "") (Or.inl (tw_22 hw)) Via.refl e39 ((q35.other W37 (Or.inl ne_11)).other W39 (Or.inl ne_11)) f5_45 ?_
  intro T40 X40 e40
  refine wiloadN C X40 f5_48 rfl ?_
  refine wdconst0 C X40 f5_49 ?_
  refine wdastore C X40 e40 V39 f5_50 ⟨by decide, by decide⟩ 11 rfl (by rw [List.length_set, List.length_set, List.length_set, List.length_set, List.length_set, List.length_set, List.length_set, List.length_set, List.length_set, List.length_set, List.length_set, hlen]; decide) ((((((((((((ls.set 0 (.double FP.dconst0)).set 1 (.double FP.dconst0)).set 2 (.double FP.dconst0)).set 3 (.double FP.dconst0)).set 4 (.double FP.dconst0)).set 5 (.double FP.dconst0)).set 6 (.double FP.dconst0)).set 7 (.double FP.dconst0)).set 8 (.double FP.dconst0)).set 9 (.double FP.dconst0)).set 10 (.double FP.dconst0)).set 11 (.double FP.dconst0)) rfl ?_
  intro T41 h41 sl41 w41 X41 e41 W41 V41
  have N41 := Fr.snoc X41 N39 ge_9
  refine wiinc C X41 f5_51 (12 : Int32) (by decide) rfl #[.val (.ref a), .val (.ref pt), .val (.int (4 : Int32)), .val (.int (12 : Int32))] rfl ?_
  refine wgoto C X41 f5_54 ?_
  refine wiloadN C X41 f5_33 rfl ?_
  refine wiconst C X41 f5_34 (2 : Int32) rfl ?_
  refine wiconst C X41 f5_35 (2 : Int32) rfl ?_
  refine wiloadN C X41 f5_36 rfl ?_
  refine wimul C X41 f5_37 ?_
  refine own_foldI (z := (8 : Int32)) (by decide) ?_
  refine wiconst C X41 f5_38 (1 : Int32) rfl ?_
  refine wisub C X41 f5_39 ?_
  refine own_foldI (z := (7 : Int32)) (by decide) ?_
  refine wimul C X41 f5_40 ?_
  refine own_foldI (z := (14 : Int32)) (by decide) ?_
  refine wicmp_ge C X41 f5_41 ?_ (fun q => absurd (by decide : ((12 : Int32) < (14 : Int32))) q)
  intro _
  refine waloadN C X41 f5_44 rfl rfl ?_
  have q42 := (((q35.other W37 (Or.inl ne_11)).other W39 (Or.inl ne_11)).other W41 (Or.inl ne_11))
  refine wget C X41 (host := "") (Or.inl (tw_22 hw)) Via.refl e41 q42 f5_45 ?_
  intro T43 X43 e43
  refine wiloadN C X43 f5_48 rfl ?_
  refine wdconst0 C X43 f5_49 ?_
  refine wdastore C X43 e43 V41 f5_50 ⟨by decide, by decide⟩ 12 rfl (by rw [List.length_set, List.length_set, List.length_set, List.length_set, List.length_set, List.length_set, List.length_set, List.length_set, List.length_set, List.length_set, List.length_set, List.length_set, hlen]; decide) (((((((((((((ls.set 0 (.double FP.dconst0)).set 1 (.double FP.dconst0)).set 2 (.double FP.dconst0)).set 3 (.double FP.dconst0)).set 4 (.double FP.dconst0)).set 5 (.double FP.dconst0)).set 6 (.double FP.dconst0)).set 7 (.double FP.dconst0)).set 8 (.double FP.dconst0)).set 9 (.double FP.dconst0)).set 10 (.double FP.dconst0)).set 11 (.double FP.dconst0)).set 12 (.double FP.dconst0)) rfl ?_
  intro T44 h44 sl44 w44 X44 e44 W44 V44
  have N44 := Fr.snoc X44 N41 ge_9
  refine wiinc C X44 f5_51 (13 : Int32) (by decide) rfl #[.val (.ref a), .val (.ref pt), .val (.int (4 : Int32)), .val (.int (13 : Int32))] rfl ?_
  refine wgoto C X44 f5_54 ?_
  refine wiloadN C X44 f5_33 rfl ?_
  refine wiconst C X44 f5_34 (2 : Int32) rfl ?_
  refine wiconst C X44 f5_35 (2 : Int32) rfl ?_
  refine wiloadN C X44 f5_36 rfl ?_
  refine wimul C X44 f5_37 ?_
  refine own_foldI (z := (8 : Int32)) (by decide) ?_
  refine wiconst C X44 f5_38 (1 : Int32) rfl ?_
  refine wisub C X44 f5_39 ?_
  refine own_foldI (z := (7 : Int32)) (by decide) ?_
  refine wimul C X44 f5_40 ?_
  refine own_foldI (z := (14 : Int32)) (by decide) ?_
  refine wicmp_ge C X44 f5_41 ?_ (fun q => absurd (by decide : ((13 : Int32) < (14 : Int32))) q)
  intro _
  refine waloadN C X44 f5_44 rfl rfl ?_
  refine wget C X44 (host := "") (Or.inl (tw_22 hw)) Via.refl e44 (q42.other W44 (Or.inl ne_11)) f5_45 ?_
  intro T45 X45 e45
  refine wiloadN C X45 f5_48 rfl ?_
  refine wdconst0 C X45 f5_49 ?_
  refine wdastore C X45 e45 V44 f5_50 ⟨by decide, by decide⟩ 13 rfl (by rw [List.length_set, List.length_set, List.length_set, List.length_set, List.length_set, List.length_set, List.length_set, List.length_set, List.length_set, List.length_set, List.length_set, List.length_set, List.length_set, hlen]; decide) ((((((((((((((ls.set 0 (.double FP.dconst0)).set 1 (.double FP.dconst0)).set 2 (.double FP.dconst0)).set 3 (.double FP.dconst0)).set 4 (.double FP.dconst0)).set 5 (.double FP.dconst0)).set 6 (.double FP.dconst0)).set 7 (.double FP.dconst0)).set 8 (.double FP.dconst0)).set 9 (.double FP.dconst0)).set 10 (.double FP.dconst0)).set 11 (.double FP.dconst0)).set 12 (.double FP.dconst0)).set 13 (.double FP.dconst0)) rfl ?_
  intro T46 h46 sl46 w46 X46 e46 W46 V46
  have N46 := Fr.snoc X46 N44 ge_9
  refine wiinc C X46 f5_51 (14 : Int32) (by decide) rfl #[.val (.ref a), .val (.ref pt), .val (.int (4 : Int32)), .val (.int (14 : Int32))] rfl ?_
  refine wgoto C X46 f5_54 ?_
  refine wiloadN C X46 f5_33 rfl ?_
  refine wiconst C X46 f5_34 (2 : Int32) rfl ?_
  refine wiconst C X46 f5_35 (2 : Int32) rfl ?_
  refine wiloadN C X46 f5_36 rfl ?_
  refine wimul C X46 f5_37 ?_
  refine own_foldI (z := (8 : Int32)) (by decide) ?_
  refine wiconst C X46 f5_38 (1 : Int32) rfl ?_
  refine wisub C X46 f5_39 ?_
  refine own_foldI (z := (7 : Int32)) (by decide) ?_
  refine wimul C X46 f5_40 ?_
  refine own_foldI (z := (14 : Int32)) (by decide) ?_
  refine wicmp_ge C X46 f5_41 (fun q => absurd q (by decide : ¬ ((14 : Int32) < (14 : Int32)))) ?_
  intro _
  refine wret C X46 f5_57 rfl (by decide) (by decide) ?_
  rw [e46]
  have q47 := ((((((((((((((((((((Keep.refl h0 [a, ph, pl]).wr W1 (Or.inl (List.mem_of_getElem? (i := 0) rfl))).wr W4 (Or.inl (List.mem_of_getElem? (i := 1) rfl))).wr W6 (Or.inl (List.mem_of_getElem? (i := 1) rfl))).wr W8 (Or.inl (List.mem_of_getElem? (i := 1) rfl))).wr W12 (Or.inl (List.mem_of_getElem? (i := 1) rfl))).wr W16 (Or.inl (List.mem_of_getElem? (i := 2) rfl))).wr W18 (Or.inl (List.mem_of_getElem? (i := 2) rfl))).wr W20 (Or.inl (List.mem_of_getElem? (i := 2) rfl))).wr W23 (Or.inl (List.mem_of_getElem? (i := 2) rfl))).wr W25 (Or.inl (List.mem_of_getElem? (i := 2) rfl))).wr W27 (Or.inl (List.mem_of_getElem? (i := 2) rfl))).wr W30 (Or.inl (List.mem_of_getElem? (i := 2) rfl))).wr W32 (Or.inl (List.mem_of_getElem? (i := 2) rfl))).wr W34 (Or.inl (List.mem_of_getElem? (i := 2) rfl))).wr W37 (Or.inl (List.mem_of_getElem? (i := 2) rfl))).wr W39 (Or.inl (List.mem_of_getElem? (i := 2) rfl))).wr W41 (Or.inl (List.mem_of_getElem? (i := 2) rfl))).wr W44 (Or.inl (List.mem_of_getElem? (i := 2) rfl))).wr W46 (Or.inl (List.mem_of_getElem? (i := 2) rfl)))
  have q48 := (((((((((((((((((((Exa_0.wr W1).wr W4).wr W6).wr W8).wr W12).wr W16).wr W18).wr W20).wr W23).wr W25).wr W27).wr W30).wr W32).wr W34).wr W37).wr W39).wr W41).wr W44).wr W46)
  have q49 := (((((((((((((((q9.other W12 (Or.inl ne_10)).other W16 (Or.inl ne_11)).other W18 (Or.inl ne_11)).other W20 (Or.inl ne_11)).other W23 (Or.inl ne_11)).other W25 (Or.inl ne_11)).other W27 (Or.inl ne_11)).other W30 (Or.inl ne_11)).other W32 (Or.inl ne_11)).other W34 (Or.inl ne_11)).other W37 (Or.inl ne_11)).other W39 (Or.inl ne_11)).other W41 (Or.inl ne_11)).other W44 (Or.inl ne_11)).other W46 (Or.inl ne_11))
  have q50 := ((((((((((((((((((Fw1.other W4 (Or.inl ne_10)).other W6 (Or.inl ne_10)).other W8 (Or.inl ne_10)).other W12 (Or.inl ne_10)).other W16 (Or.inl ne_11)).other W18 (Or.inl ne_11)).other W20 (Or.inl ne_11)).other W23 (Or.inl ne_11)).other W25 (Or.inl ne_11)).other W27 (Or.inl ne_11)).other W30 (Or.inl ne_11)).other W32 (Or.inl ne_11)).other W34 (Or.inl ne_11)).other W37 (Or.inl ne_11)).other W39 (Or.inl ne_11)).other W41 (Or.inl ne_11)).other W44 (Or.inl ne_11)).other W46 (Or.inl ne_11))
  have q51 := ((((((((((((((V12.other W16 ne_12).other W18 ne_12).other W20 ne_12).other W23 ne_12).other W25 ne_12).other W27 ne_12).other W30 ne_12).other W32 ne_12).other W34 ne_12).other W37 ne_12).other W39 ne_12).other W41 ne_12).other W44 ne_12).other W46 ne_12)
  exact ⟨rfl, N46, q47, q48, q49, q50, ((q42.other W44 (Or.inl ne_11)).other W46 (Or.inl ne_11)), q51, V46⟩
theorem f7_0 : Dec prog_12_method_4_code 0 (.aload_n 0) 1 1 := ⟨by decide +kernel, rfl⟩
theorem f7_1 : Dec prog_12_method_4_code 1 (.getfield 7) 3 4 := ⟨by decide +kernel, rfl⟩
theorem f7_4 : Dec prog_12_method_4_code 4 (.iload_n 1) 1 5 := ⟨by decide +kernel, rfl⟩
theorem f7_5 : Dec prog_12_method_4_code 5 (.daload) 1 6 := ⟨by decide +kernel, rfl⟩
theorem f7_6 : Dec prog_12_method_4_code 6 (.dstore_n 2) 1 7 := ⟨by decide +kernel, rfl⟩
theorem f7_7 : Dec prog_12_method_4_code 7 (.dconst 0) 1 8 := ⟨by decide +kernel, rfl⟩
theorem f7_8 : Dec prog_12_method_4_code 8 (.dstore 4) 2 10 := ⟨by decide +kernel, rfl⟩
theorem f7_10 : Dec prog_12_method_4_code 10 (.iconst 0) 1 11 := ⟨by decide +kernel, rfl⟩
theorem f7_11 : Dec prog_12_method_4_code 11 (.istore 6) 2 13 := ⟨by decide +kernel, rfl⟩
theorem f7_13 : Dec prog_12_method_4_code 13 (.iconst 0) 1 14 := ⟨by decide +kernel, rfl⟩
theorem f7_14 : Dec prog_12_method_4_code 14 (.istore 7) 2 16 := ⟨by decide +kernel, rfl⟩
theorem f7_16 : Dec prog_12_method_4_code 16 (.aload_n 0) 1 17 := ⟨by decide +kernel, rfl⟩
theorem f7_17 : Dec prog_12_method_4_code 17 (.getfield 16) 3 20 := ⟨by decide +kernel, rfl⟩
theorem f7_20 : Dec prog_12_method_4_code 20 (.iconst 1) 1 21 := ⟨by decide +kernel, rfl⟩
theorem f7_21 : Dec prog_12_method_4_code 21 (.isub) 1 22 := ⟨by decide +kernel, rfl⟩
theorem f7_22 : Dec prog_12_method_4_code 22 (.istore 8) 2 24 := ⟨by decide +kernel, rfl⟩
theorem f7_24 : Dec prog_12_method_4_code 24 (.dload 4) 2 26 := ⟨by decide +kernel, rfl⟩
theorem f7_26 : Dec prog_12_method_4_code 26 (.aload_n 0) 1 27 := ⟨by decide +kernel, rfl⟩
theorem f7_27 : Dec prog_12_method_4_code 27 (.getfield 13) 3 30 := ⟨by decide +kernel, rfl⟩
theorem f7_30 : Dec prog_12_method_4_code 30 (.iconst 2) 1 31 := ⟨by decide +kernel, rfl⟩
theorem f7_31 : Dec prog_12_method_4_code 31 (.iload 6) 2 33 := ⟨by decide +kernel, rfl⟩
theorem f7_33 : Dec prog_12_method_4_code 33 (.imul) 1 34 := ⟨by decide +kernel, rfl⟩
theorem f7_34 : Dec prog_12_method_4_code 34 (.daload) 1 35 := ⟨by decide +kernel, rfl⟩
theorem f7_35 : Dec prog_12_method_4_code 35 (.dload_n 2) 1 36 := ⟨by decide +kernel, rfl⟩
theorem f7_36 : Dec prog_12_method_4_code 36 (.aload_n 0) 1 37 := ⟨by decide +kernel, rfl⟩
theorem f7_37 : Dec prog_12_method_4_code 37 (.getfield 13) 3 40 := ⟨by decide +kernel, rfl⟩
theorem f7_40 : Dec prog_12_method_4_code 40 (.iconst 2) 1 41 := ⟨by decide +kernel, rfl⟩
theorem f7_41 : Dec prog_12_method_4_code 41 (.iload 6) 2 43 := ⟨by decide +kernel, rfl⟩
theorem f7_43 : Dec prog_12_method_4_code 43 (.imul) 1 44 := ⟨by decide +kernel, rfl⟩
theorem f7_44 : Dec prog_12_method_4_code 44 (.iconst 1) 1 45 := ⟨by decide +kernel, rfl⟩
theorem f7_45 : Dec prog_12_method_4_code 45 (.iadd) 1 46 := ⟨by decide +kernel, rfl⟩
theorem f7_46 : Dec prog_12_method_4_code 46 (.daload) 1 47 := ⟨by decide +kernel, rfl⟩
theorem f7_47 : Dec prog_12_method_4_code 47 (.dadd) 1 48 := ⟨by decide +kernel, rfl⟩
theorem f7_48 : Dec prog_12_method_4_code 48 (.dmul) 1 49 := ⟨by decide +kernel, rfl⟩
theorem f7_49 : Dec prog_12_method_4_code 49 (.invokestatic 22) 3 52 := ⟨by decide +kernel, rfl⟩
theorem f7_52 : Dec prog_12_method_4_code 52 (.dstore 4) 2 54 := ⟨by decide +kernel, rfl⟩
theorem f7_54 : Dec prog_12_method_4_code 54 (.iload 7) 2 56 := ⟨by decide +kernel, rfl⟩
theorem f7_56 : Dec prog_12_method_4_code 56 (.iload 8) 2 58 := ⟨by decide +kernel, rfl⟩
theorem f7_58 : DecJ prog_12_method_4_code 58 (.if_icmp .ne 10) 10 68 61 := ⟨by decide +kernel, by decide, by decide, rfl⟩
theorem f7_61 : Dec prog_12_method_4_code 61 (.ldc2_w 20) 3 64 := ⟨by decide +kernel, rfl⟩
theorem f7_64 : Dec prog_12_method_4_code 64 (.dload 4) 2 66 := ⟨by decide +kernel, rfl⟩
theorem f7_66 : Dec prog_12_method_4_code 66 (.dmul) 1 67 := ⟨by decide +kernel, rfl⟩
theorem f7_67 : Dec prog_12_method_4_code 67 (.dreturn) 1 68 := ⟨by decide +kernel, rfl⟩
theorem pn_7 : plainFor (⟨"com/example/arbor_center/arborcenter/objective/UpperEnvelope", "at", "(I)D"⟩ : MethodName) = true := plainFor_of_name (show plainName "com/example/arbor_center/arborcenter/objective/UpperEnvelope" = true by first | (simp [plainName, overriddenIn]; done) | decide +kernel)
theorem ef_7_1_0 (m : MethodId) (a : Addr) (ix : Int32) : entryFrame m #[(.ref a), (.int ix)] 10 = mkF m 0 #[.val (.ref a), .val (.int ix), .unset, .unset, .unset, .unset, .unset, .unset, .unset, .unset] [] := by first | (simp [entryFrame, mkF, argsToLocals, Value.category]; done) | rfl
def Q7_1_0 (Z : State) (a : Addr) (ix : Int32) (ph : Addr) (pl : Addr) (k1 : ClassId) (k2 : ClassId) (hp : List Value) (ls : List Value) (P : Nat → Int) (W : Nat → Int) (D : Nat → Int) (h0 : Heap) (n0 : Nat) (v9 : Option Value) (h9 : Heap) (L9 : List Loc) : Prop := ∃ (rv : UInt64), v9 = some (.double rv) ∧ Fr n0 L9 ∧ h9 = h0 ∧ (FP.Core.DInt (own_pm 3 0 0 (1 - 1) W D (P 0) 0) rv)
set_option maxRecDepth 65536 in
set_option maxHeartbeats 40000000 in
theorem rm7_1_0 (l : Launch) (Z : State) (a0 : Array Value) (hw : ∀ d ∈ tables_1, d.before a0 Z = true) (ws : List Jvm.Cond) (a : Addr) (ix : Int32) (ph : Addr) (pl : Addr) (k1 : ClassId) (k2 : ClassId) (hp : List Value) (ls : List Value) (P : Nat → Int) (W : Nat → Int) (D : Nat → Int) (h0 : Heap) (n0 : Nat) (Z0 : n0 ≤ h0.size) (Fld_0 : Fld Z h0 a "com/example/arbor_center/arborcenter/objective/UpperEnvelope" "halfPoints" "[D" (.ref ph)) (Fld_1 : Fld Z h0 a "com/example/arbor_center/arborcenter/objective/UpperEnvelope" "count" "I" (.int (1 : Int32))) (Fld_2 : Fld Z h0 a "com/example/arbor_center/arborcenter/objective/UpperEnvelope" "lines" "[D" (.ref pl)) (Arv_3 : Arv Z h0 ph k1 .double (4 : Int32) hp (.double (0 : UInt64))) (Arv_4 : Arv Z h0 pl k2 .double (14 : Int32) ls (.double (0 : UInt64))) (hix : (ix = (0 : Int32))) (hL : (own_Ls ls W D)) (hP : (own_Ps hp P 1)) :
    MetFree l (⟨"com/example/arbor_center/arborcenter/objective/UpperEnvelope", "at", "(I)D"⟩ : MethodName) (head1 (Jvm.Cond.code (⟨"com/example/arbor_center/arborcenter/objective/UpperEnvelope", "at", "(I)D"⟩ : MethodName) prog_12_method_4_code 10 (some .double) :: ws) ({ frames := 1, cells := 0, slots := 0, locals := 15 } : Room)) (fun A9 U9 => A9 = #[(.ref a), (.int ix)] ∧ Z.Warmed39 U9.vm ∧ U9.heap = h0) (fun _ _ _ _ _ => True) (fun _ U9 o9 V9 => ∃ v9 L9, o9 = .returned v9 ∧ (Q7_1_0 Z a ix ph pl k1 k2 hp ls P W D h0 n0) v9 V9.heap L9 ∧ FrameEnd U9 o9 V9 L9 ({ frames := 1, cells := 0, slots := 0, locals := 15 } : Room).cells ({ frames := 1, cells := 0, slots := 0, locals := 15 } : Room).slots) := by
  refine met_of (Q := (Q7_1_0 Z a ix ph pl k1 k2 hp ls P W D h0 n0)) pn_7 ?_
  intro p e s m below meth c T0 C X0 e0
  have N0 := Fr.nil n0
  refine Go.cast (ef_7_1_0 m a ix) ?_
  subst hix
  obtain ⟨px, gx, hx⟩ := hP.2 0 (by decide)
  obtain ⟨u0, v0, gu0, gv0, hl0⟩ := hL.2 0 (by decide)
  refine waloadN C X0 f7_0 rfl rfl ?_
  refine wget C X0 (host := "") (Or.inl (tw_20 hw)) Via.refl e0 Fld_0 f7_1 ?_
  intro T1 X1 e1
  refine wiloadN C X1 f7_4 rfl ?_
  refine wdaload C X1 e1 Arv_3 f7_5 ⟨by decide, by decide⟩ (i := 0) rfl (v := px) gx ?_
  refine wdstoreN C X1 f7_6 #[.val (.ref a), .val (.int (0 : Int32)), .val (.double px), .second, .unset, .unset, .unset, .unset, .unset, .unset] rfl ?_
  refine wdconst0 C X1 f7_7 ?_
  refine wdstore C X1 f7_8 #[.val (.ref a), .val (.int (0 : Int32)), .val (.double px), .second, .val (.double FP.dconst0), .second, .unset, .unset, .unset, .unset] rfl ?_
  refine wiconst C X1 f7_10 (0 : Int32) rfl ?_
  refine wistore C X1 f7_11 #[.val (.ref a), .val (.int (0 : Int32)), .val (.double px), .second, .val (.double FP.dconst0), .second, .val (.int (0 : Int32)), .unset, .unset, .unset] rfl ?_
  refine wiconst C X1 f7_13 (0 : Int32) rfl ?_
  refine wistore C X1 f7_14 #[.val (.ref a), .val (.int (0 : Int32)), .val (.double px), .second, .val (.double FP.dconst0), .second, .val (.int (0 : Int32)), .val (.int (0 : Int32)), .unset, .unset] rfl ?_
  refine waloadN C X1 f7_16 rfl rfl ?_
  refine wget C X1 (host := "") (Or.inl (tw_29 hw)) Via.refl e1 Fld_1 f7_17 ?_
  intro T2 X2 e2
  refine wiconst C X2 f7_20 (1 : Int32) rfl ?_
  refine wisub C X2 f7_21 ?_
  refine own_foldI (z := (0 : Int32)) (by decide) ?_
  refine wistore C X2 f7_22 #[.val (.ref a), .val (.int (0 : Int32)), .val (.double px), .second, .val (.double FP.dconst0), .second, .val (.int (0 : Int32)), .val (.int (0 : Int32)), .val (.int (0 : Int32)), .unset] rfl ?_
  refine wdload C X2 f7_24 rfl ?_
  refine waloadN C X2 f7_26 rfl rfl ?_
  refine wget C X2 (host := "") (Or.inl (tw_22 hw)) Via.refl e2 Fld_2 f7_27 ?_
  intro T3 X3 e3
  refine wiconst C X3 f7_30 (2 : Int32) rfl ?_
  refine wiload C X3 f7_31 rfl ?_
  refine wimul C X3 f7_33 ?_
  refine own_foldI (z := (0 : Int32)) (by decide) ?_
  refine wdaload C X3 e3 Arv_4 f7_34 ⟨by decide, by decide⟩ (i := 0) rfl (v := u0) gu0 ?_
  refine wdloadN C X3 f7_35 rfl ?_
  refine waloadN C X3 f7_36 rfl rfl ?_
  refine wget C X3 (host := "") (Or.inl (tw_22 hw)) Via.refl e3 Fld_2 f7_37 ?_
  intro T4 X4 e4
  refine wiconst C X4 f7_40 (2 : Int32) rfl ?_
  refine wiload C X4 f7_41 rfl ?_
  refine wimul C X4 f7_43 ?_
  refine own_foldI (z := (0 : Int32)) (by decide) ?_
  refine wiconst C X4 f7_44 (1 : Int32) rfl ?_
  refine wiadd C X4 f7_45 ?_
  refine own_foldI (z := (1 : Int32)) (by decide) ?_
  refine wdaload C X4 e4 Arv_4 f7_46 ⟨by decide, by decide⟩ (i := 1) rfl (v := v0) gv0 ?_
  refine wdadd C X4 f7_47 (v := (FP.dadd px v0)) rfl (own_H_nn (own_pd hx hl0)) ?_
  refine wdmul C X4 f7_48 (v := (FP.dmul u0 (FP.dadd px v0))) rfl (own_H_nn (own_lv hx hl0)) ?_
  refine wmaxD C X4 (tw_42 hw) (tw_43 hw) (tw_2 hw) (tw_44 hw) e4 f7_49 (own_H_nn own_H_0) (own_H_nn (own_lv hx hl0)) rfl (W := 0) (Nat.le_of_eq rfl) (by decide) (by decide) (by decide) (by decide) ?_
  intro T5 X5 e5
  refine wdstore C X5 f7_52 #[.val (.ref a), .val (.int (0 : Int32)), .val (.double px), .second, .val (.double (Jvm.Native.java_lang_Math.nans.pick64 true FP.dconst0 (FP.dmul u0 (FP.dadd px v0)))), .second, .val (.int (0 : Int32)), .val (.int (0 : Int32)), .val (.int (0 : Int32)), .unset] rfl ?_
  refine wiload C X5 f7_54 rfl ?_
  refine wiload C X5 f7_56 rfl ?_
  refine wicmp_ne C X5 f7_58 ?_ (fun q => absurd (by decide : ((0 : Int32) = (0 : Int32))) q)
  intro _
  refine wldc2D C X5 (tw_31 hw) f7_61 ?_
  refine wdload C X5 f7_64 rfl ?_
  refine wdmul C X5 f7_66 (v := (FP.dmul (4611686018427387904 : UInt64) (Jvm.Native.java_lang_Math.nans.pick64 true FP.dconst0 (FP.dmul u0 (FP.dadd px v0))))) rfl (own_nn (own_H_dbl (own_H_max own_H_0 (own_lv hx hl0)) (by have z0 := own_lvb hx hl0; omega))) ?_
  refine wdret C X5 f7_67 rfl (by decide) (by decide) ?_
  rw [e5]
  exact ⟨(FP.dmul (4611686018427387904 : UInt64) (Jvm.Native.java_lang_Math.nans.pick64 true FP.dconst0 (FP.dmul u0 (FP.dadd px v0)))), rfl, N0, rfl, (by have z0 := own_lvb hx hl0; simp only [own_pm]; exact own_di (own_H_dbl (own_H_max own_H_0 (own_lv hx hl0)) (by omega)) (by simp; omega))⟩
theorem f7_68 : Dec prog_12_method_4_code 68 (.iload 7) 2 70 := ⟨by decide +kernel, rfl⟩
theorem f7_70 : Dec prog_12_method_4_code 70 (.iload 8) 2 72 := ⟨by decide +kernel, rfl⟩
theorem f7_72 : Dec prog_12_method_4_code 72 (.iadd) 1 73 := ⟨by decide +kernel, rfl⟩
theorem f7_73 : Dec prog_12_method_4_code 73 (.iconst 1) 1 74 := ⟨by decide +kernel, rfl⟩
theorem f7_74 : Dec prog_12_method_4_code 74 (.iushr) 1 75 := ⟨by decide +kernel, rfl⟩
theorem f7_75 : Dec prog_12_method_4_code 75 (.istore 9) 2 77 := ⟨by decide +kernel, rfl⟩
theorem f7_77 : Dec prog_12_method_4_code 77 (.iload_n 1) 1 78 := ⟨by decide +kernel, rfl⟩
theorem f7_78 : Dec prog_12_method_4_code 78 (.iload 9) 2 80 := ⟨by decide +kernel, rfl⟩
theorem f7_80 : DecJ prog_12_method_4_code 80 (.if_icmp .gt 16) 16 96 83 := ⟨by decide +kernel, by decide, by decide, rfl⟩
theorem f7_83 : Dec prog_12_method_4_code 83 (.iload 6) 2 85 := ⟨by decide +kernel, rfl⟩
theorem f7_85 : Dec prog_12_method_4_code 85 (.iconst 1) 1 86 := ⟨by decide +kernel, rfl⟩
theorem f7_86 : Dec prog_12_method_4_code 86 (.iadd) 1 87 := ⟨by decide +kernel, rfl⟩
theorem f7_87 : Dec prog_12_method_4_code 87 (.istore 6) 2 89 := ⟨by decide +kernel, rfl⟩
theorem f7_89 : Dec prog_12_method_4_code 89 (.iload 9) 2 91 := ⟨by decide +kernel, rfl⟩
theorem f7_91 : Dec prog_12_method_4_code 91 (.istore 8) 2 93 := ⟨by decide +kernel, rfl⟩
theorem f7_93 : DecJ prog_12_method_4_code 93 (.goto 23) 23 116 96 := ⟨by decide +kernel, by decide, by decide, rfl⟩
theorem f7_116 : DecJ prog_12_method_4_code 116 (.goto (-92)) (-92) 24 119 := ⟨by decide +kernel, by decide, by decide, rfl⟩
theorem ef_7_2_0 (m : MethodId) (a : Addr) (ix : Int32) : entryFrame m #[(.ref a), (.int ix)] 10 = mkF m 0 #[.val (.ref a), .val (.int ix), .unset, .unset, .unset, .unset, .unset, .unset, .unset, .unset] [] := by first | (simp [entryFrame, mkF, argsToLocals, Value.category]; done) | rfl
def Q7_2_0 (Z : State) (a : Addr) (ix : Int32) (ph : Addr) (pl : Addr) (k1 : ClassId) (k2 : ClassId) (hp : List Value) (ls : List Value) (P : Nat → Int) (W : Nat → Int) (D : Nat → Int) (h0 : Heap) (n0 : Nat) (v9 : Option Value) (h9 : Heap) (L9 : List Loc) : Prop := ∃ (rv : UInt64), v9 = some (.double rv) ∧ Fr n0 L9 ∧ h9 = h0 ∧ (FP.Core.DInt (own_pm 3 0 0 (2 - 1) W D (P 0) 0) rv)
set_option maxRecDepth 65536 in
set_option maxHeartbeats 40000000 in
theorem rm7_2_0 (l : Launch) (Z : State) (a0 : Array Value) (hw : ∀ d ∈ tables_1, d.before a0 Z = true) (ws : List Jvm.Cond) (a : Addr) (ix : Int32) (ph : Addr) (pl : Addr) (k1 : ClassId) (k2 : ClassId) (hp : List Value) (ls : List Value) (P : Nat → Int) (W : Nat → Int) (D : Nat → Int) (h0 : Heap) (n0 : Nat) (Z0 : n0 ≤ h0.size) (Fld_0 : Fld Z h0 a "com/example/arbor_center/arborcenter/objective/UpperEnvelope" "halfPoints" "[D" (.ref ph)) (Fld_1 : Fld Z h0 a "com/example/arbor_center/arborcenter/objective/UpperEnvelope" "count" "I" (.int (2 : Int32))) (Fld_2 : Fld Z h0 a "com/example/arbor_center/arborcenter/objective/UpperEnvelope" "lines" "[D" (.ref pl)) (Arv_3 : Arv Z h0 ph k1 .double (4 : Int32) hp (.double (0 : UInt64))) (Arv_4 : Arv Z h0 pl k2 .double (14 : Int32) ls (.double (0 : UInt64))) (hix : (ix = (0 : Int32))) (hL : (own_Ls ls W D)) (hP : (own_Ps hp P 2)) :
    MetFree l (⟨"com/example/arbor_center/arborcenter/objective/UpperEnvelope", "at", "(I)D"⟩ : MethodName) (head1 (Jvm.Cond.code (⟨"com/example/arbor_center/arborcenter/objective/UpperEnvelope", "at", "(I)D"⟩ : MethodName) prog_12_method_4_code 10 (some .double) :: ws) ({ frames := 1, cells := 0, slots := 0, locals := 15 } : Room)) (fun A9 U9 => A9 = #[(.ref a), (.int ix)] ∧ Z.Warmed39 U9.vm ∧ U9.heap = h0) (fun _ _ _ _ _ => True) (fun _ U9 o9 V9 => ∃ v9 L9, o9 = .returned v9 ∧ (Q7_2_0 Z a ix ph pl k1 k2 hp ls P W D h0 n0) v9 V9.heap L9 ∧ FrameEnd U9 o9 V9 L9 ({ frames := 1, cells := 0, slots := 0, locals := 15 } : Room).cells ({ frames := 1, cells := 0, slots := 0, locals := 15 } : Room).slots) := by
  refine met_of (Q := (Q7_2_0 Z a ix ph pl k1 k2 hp ls P W D h0 n0)) pn_7 ?_
  intro p e s m below meth c T0 C X0 e0
  have N0 := Fr.nil n0
  refine Go.cast (ef_7_2_0 m a ix) ?_
  subst hix
  obtain ⟨px, gx, hx⟩ := hP.2 0 (by decide)
  obtain ⟨u0, v0, gu0, gv0, hl0⟩ := hL.2 0 (by decide)
  obtain ⟨u1, v1, gu1, gv1, hl1⟩ := hL.2 1 (by decide)
  refine waloadN C X0 f7_0 rfl rfl ?_
  refine wget C X0 (host := "") (Or.inl (tw_20 hw)) Via.refl e0 Fld_0 f7_1 ?_
  intro T1 X1 e1
  refine wiloadN C X1 f7_4 rfl ?_
  refine wdaload C X1 e1 Arv_3 f7_5 ⟨by decide, by decide⟩ (i := 0) rfl (v := px) gx ?_
  refine wdstoreN C X1 f7_6 #[.val (.ref a), .val (.int (0 : Int32)), .val (.double px), .second, .unset, .unset, .unset, .unset, .unset, .unset] rfl ?_
  refine wdconst0 C X1 f7_7 ?_
  refine wdstore C X1 f7_8 #[.val (.ref a), .val (.int (0 : Int32)), .val (.double px), .second, .val (.double FP.dconst0), .second, .unset, .unset, .unset, .unset] rfl ?_
  refine wiconst C X1 f7_10 (0 : Int32) rfl ?_
  refine wistore C X1 f7_11 #[.val (.ref a), .val (.int (0 : Int32)), .val (.double px), .second, .val (.double FP.dconst0), .second, .val (.int (0 : Int32)), .unset, .unset, .unset] rfl ?_
  refine wiconst C X1 f7_13 (0 : Int32) rfl ?_
  refine wistore C X1 f7_14 #[.val (.ref a), .val (.int (0 : Int32)), .val (.double px), .second, .val (.double FP.dconst0), .second, .val (.int (0 : Int32)), .val (.int (0 : Int32)), .unset, .unset] rfl ?_
  refine waloadN C X1 f7_16 rfl rfl ?_
  refine wget C X1 (host := "") (Or.inl (tw_29 hw)) Via.refl e1 Fld_1 f7_17 ?_
  intro T2 X2 e2
  refine wiconst C X2 f7_20 (1 : Int32) rfl ?_
  refine wisub C X2 f7_21 ?_
  refine own_foldI (z := (1 : Int32)) (by decide) ?_
  refine wistore C X2 f7_22 #[.val (.ref a), .val (.int (0 : Int32)), .val (.double px), .second, .val (.double FP.dconst0), .second, .val (.int (0 : Int32)), .val (.int (0 : Int32)), .val (.int (1 : Int32)), .unset] rfl ?_
  refine wdload C X2 f7_24 rfl ?_
  refine waloadN C X2 f7_26 rfl rfl ?_
  refine wget C X2 (host := "") (Or.inl (tw_22 hw)) Via.refl e2 Fld_2 f7_27 ?_
  intro T3 X3 e3
  refine wiconst C X3 f7_30 (2 : Int32) rfl ?_
  refine wiload C X3 f7_31 rfl ?_
  refine wimul C X3 f7_33 ?_
  refine own_foldI (z := (0 : Int32)) (by decide) ?_
  refine wdaload C X3 e3 Arv_4 f7_34 ⟨by decide, by decide⟩ (i := 0) rfl (v := u0) gu0 ?_
  refine wdloadN C X3 f7_35 rfl ?_
  refine waloadN C X3 f7_36 rfl rfl ?_
  refine wget C X3 (host := "") (Or.inl (tw_22 hw)) Via.refl e3 Fld_2 f7_37 ?_
  intro T4 X4 e4
  refine wiconst C X4 f7_40 (2 : Int32) rfl ?_
  refine wiload C X4 f7_41 rfl ?_
  refine wimul C X4 f7_43 ?_
  refine own_foldI (z := (0 : Int32)) (by decide) ?_
  refine wiconst C X4 f7_44 (1 : Int32) rfl ?_
  refine wiadd C X4 f7_45 ?_
  refine own_foldI (z := (1 : Int32)) (by decide) ?_
  refine wdaload C X4 e4 Arv_4 f7_46 ⟨by decide, by decide⟩ (i := 1) rfl (v := v0) gv0 ?_
  refine wdadd C X4 f7_47 (v := (FP.dadd px v0)) rfl (own_H_nn (own_pd hx hl0)) ?_
  refine wdmul C X4 f7_48 (v := (FP.dmul u0 (FP.dadd px v0))) rfl (own_H_nn (own_lv hx hl0)) ?_
  refine wmaxD C X4 (tw_42 hw) (tw_43 hw) (tw_2 hw) (tw_44 hw) e4 f7_49 (own_H_nn own_H_0) (own_H_nn (own_lv hx hl0)) rfl (W := 0) (Nat.le_of_eq rfl) (by decide) (by decide) (by decide) (by decide) ?_
  intro T5 X5 e5
  refine wdstore C X5 f7_52 #[.val (.ref a), .val (.int (0 : Int32)), .val (.double px), .second, .val (.double (Jvm.Native.java_lang_Math.nans.pick64 true FP.dconst0 (FP.dmul u0 (FP.dadd px v0)))), .second, .val (.int (0 : Int32)), .val (.int (0 : Int32)), .val (.int (1 : Int32)), .unset] rfl ?_
  refine wiload C X5 f7_54 rfl ?_
  refine wiload C X5 f7_56 rfl ?_
  refine wicmp_ne C X5 f7_58 (fun q => absurd q (by decide : ¬ ((0 : Int32) = (1 : Int32)))) ?_
  intro _
  refine wiload C X5 f7_68 rfl ?_
  refine wiload C X5 f7_70 rfl ?_
  refine wiadd C X5 f7_72 ?_
  refine own_foldI (z := (1 : Int32)) (by decide) ?_
  refine wiconst C X5 f7_73 (1 : Int32) rfl ?_
  refine wiushr C X5 f7_74 ?_
  refine own_foldI (z := (0 : Int32)) (by decide) ?_
  refine wistore C X5 f7_75 #[.val (.ref a), .val (.int (0 : Int32)), .val (.double px), .second, .val (.double (Jvm.Native.java_lang_Math.nans.pick64 true FP.dconst0 (FP.dmul u0 (FP.dadd px v0)))), .second, .val (.int (0 : Int32)), .val (.int (0 : Int32)), .val (.int (1 : Int32)), .val (.int (0 : Int32))] rfl ?_
  refine wiloadN C X5 f7_77 rfl ?_
  refine wiload C X5 f7_78 rfl ?_
  refine wicmp_gt C X5 f7_80 (fun q => absurd q (by decide : ¬ ((0 : Int32) < (0 : Int32)))) ?_
  intro _
  refine wiload C X5 f7_83 rfl ?_
  refine wiconst C X5 f7_85 (1 : Int32) rfl ?_
  refine wiadd C X5 f7_86 ?_
  refine own_foldI (z := (1 : Int32)) (by decide) ?_
  refine wistore C X5 f7_87 #[.val (.ref a), .val (.int (0 : Int32)), .val (.double px), .second, .val (.double (Jvm.Native.java_lang_Math.nans.pick64 true FP.dconst0 (FP.dmul u0 (FP.dadd px v0)))), .second, .val (.int (1 : Int32)), .val (.int (0 : Int32)), .val (.int (1 : Int32)), .val (.int (0 : Int32))] rfl ?_
  refine wiload C X5 f7_89 rfl ?_
  refine wistore C X5 f7_91 #[.val (.ref a), .val (.int (0 : Int32)), .val (.double px), .second, .val (.double (Jvm.Native.java_lang_Math.nans.pick64 true FP.dconst0 (FP.dmul u0 (FP.dadd px v0)))), .second, .val (.int (1 : Int32)), .val (.int (0 : Int32)), .val (.int (0 : Int32)), .val (.int (0 : Int32))] rfl ?_
  refine wgoto C X5 f7_93 ?_
  refine wgoto C X5 f7_116 ?_
  refine wdload C X5 f7_24 rfl ?_
  refine waloadN C X5 f7_26 rfl rfl ?_
  refine wget C X5 (host := "") (Or.inl (tw_22 hw)) Via.refl e5 Fld_2 f7_27 ?_
  intro T6 X6 e6
  refine wiconst C X6 f7_30 (2 : Int32) rfl ?_
  refine wiload C X6 f7_31 rfl ?_
  refine wimul C X6 f7_33 ?_
  refine own_foldI (z := (2 : Int32)) (by decide) ?_
  refine wdaload C X6 e6 Arv_4 f7_34 ⟨by decide, by decide⟩ (i := 2) rfl (v := u1) gu1 ?_
  refine wdloadN C X6 f7_35 rfl ?_
  refine waloadN C X6 f7_36 rfl rfl ?_
  refine wget C X6 (host := "") (Or.inl (tw_22 hw)) Via.refl e6 Fld_2 f7_37 ?_
  intro T7 X7 e7
  refine wiconst C X7 f7_40 (2 : Int32) rfl ?_
  refine wiload C X7 f7_41 rfl ?_
  refine wimul C X7 f7_43 ?_
  refine own_foldI (z := (2 : Int32)) (by decide) ?_
  refine wiconst C X7 f7_44 (1 : Int32) rfl ?_
  refine wiadd C X7 f7_45 ?_
  refine own_foldI (z := (3 : Int32)) (by decide) ?_
  refine wdaload C X7 e7 Arv_4 f7_46 ⟨by decide, by decide⟩ (i := 3) rfl (v := v1) gv1 ?_
  refine wdadd C X7 f7_47 (v := (FP.dadd px v1)) rfl (own_H_nn (own_pd hx hl1)) ?_
  refine wdmul C X7 f7_48 (v := (FP.dmul u1 (FP.dadd px v1))) rfl (own_H_nn (own_lv hx hl1)) ?_
  refine wmaxD C X7 (tw_42 hw) (tw_43 hw) (tw_2 hw) (tw_44 hw) e7 f7_49 (own_H_nn (own_H_max own_H_0 (own_lv hx hl0))) (own_H_nn (own_lv hx hl1)) rfl (W := 0) (Nat.le_of_eq rfl) (by decide) (by decide) (by decide) (by decide) ?_
  intro T8 X8 e8
  refine wdstore C X8 f7_52 #[.val (.ref a), .val (.int (0 : Int32)), .val (.double px), .second, .val (.double (Jvm.Native.java_lang_Math.nans.pick64 true (Jvm.Native.java_lang_Math.nans.pick64 true FP.dconst0 (FP.dmul u0 (FP.dadd px v0))) (FP.dmul u1 (FP.dadd px v1)))), .second, .val (.int (1 : Int32)), .val (.int (0 : Int32)), .val (.int (0 : Int32)), .val (.int (0 : Int32))] rfl ?_
  refine wiload C X8 f7_54 rfl ?_
  refine wiload C X8 f7_56 rfl ?_
  refine wicmp_ne C X8 f7_58 ?_ (fun q => absurd (by decide : ((0 : Int32) = (0 : Int32))) q)
  intro _
  refine wldc2D C X8 (tw_31 hw) f7_61 ?_
  refine wdload C X8 f7_64 rfl ?_
  refine wdmul C X8 f7_66 (v := (FP.dmul (4611686018427387904 : UInt64) (Jvm.Native.java_lang_Math.nans.pick64 true (Jvm.Native.java_lang_Math.nans.pick64 true FP.dconst0 (FP.dmul u0 (FP.dadd px v0))) (FP.dmul u1 (FP.dadd px v1))))) rfl (own_nn (own_H_dbl (own_H_max (own_H_max own_H_0 (own_lv hx hl0)) (own_lv hx hl1)) (by have z0 := own_lvb hx hl0; have z1 := own_lvb hx hl1; omega))) ?_
  refine wdret C X8 f7_67 rfl (by decide) (by decide) ?_
  rw [e8]
  exact ⟨(FP.dmul (4611686018427387904 : UInt64) (Jvm.Native.java_lang_Math.nans.pick64 true (Jvm.Native.java_lang_Math.nans.pick64 true FP.dconst0 (FP.dmul u0 (FP.dadd px v0))) (FP.dmul u1 (FP.dadd px v1)))), rfl, N0, rfl, (by have z0 := own_lvb hx hl0; have z1 := own_lvb hx hl1; simp only [own_pm]; exact own_di (own_H_dbl (own_H_max (own_H_max own_H_0 (own_lv hx hl0)) (own_lv hx hl1)) (by omega)) (by simp; omega))⟩
theorem f7_96 : Dec prog_12_method_4_code 96 (.iload 6) 2 98 := ⟨by decide +kernel, rfl⟩
theorem f7_98 : Dec prog_12_method_4_code 98 (.iconst 2) 1 99 := ⟨by decide +kernel, rfl⟩
theorem f7_99 : Dec prog_12_method_4_code 99 (.iload 9) 2 101 := ⟨by decide +kernel, rfl⟩
theorem f7_101 : Dec prog_12_method_4_code 101 (.iload 7) 2 103 := ⟨by decide +kernel, rfl⟩
theorem f7_103 : Dec prog_12_method_4_code 103 (.isub) 1 104 := ⟨by decide +kernel, rfl⟩
theorem f7_104 : Dec prog_12_method_4_code 104 (.iconst 1) 1 105 := ⟨by decide +kernel, rfl⟩
theorem f7_105 : Dec prog_12_method_4_code 105 (.iadd) 1 106 := ⟨by decide +kernel, rfl⟩
theorem f7_106 : Dec prog_12_method_4_code 106 (.imul) 1 107 := ⟨by decide +kernel, rfl⟩
theorem f7_107 : Dec prog_12_method_4_code 107 (.iadd) 1 108 := ⟨by decide +kernel, rfl⟩
theorem f7_108 : Dec prog_12_method_4_code 108 (.istore 6) 2 110 := ⟨by decide +kernel, rfl⟩
theorem f7_110 : Dec prog_12_method_4_code 110 (.iload 9) 2 112 := ⟨by decide +kernel, rfl⟩
theorem f7_112 : Dec prog_12_method_4_code 112 (.iconst 1) 1 113 := ⟨by decide +kernel, rfl⟩
theorem f7_113 : Dec prog_12_method_4_code 113 (.iadd) 1 114 := ⟨by decide +kernel, rfl⟩
theorem f7_114 : Dec prog_12_method_4_code 114 (.istore 7) 2 116 := ⟨by decide +kernel, rfl⟩
theorem ef_7_2_1 (m : MethodId) (a : Addr) (ix : Int32) : entryFrame m #[(.ref a), (.int ix)] 10 = mkF m 0 #[.val (.ref a), .val (.int ix), .unset, .unset, .unset, .unset, .unset, .unset, .unset, .unset] [] := by first | (simp [entryFrame, mkF, argsToLocals, Value.category]; done) | rfl
def Q7_2_1 (Z : State) (a : Addr) (ix : Int32) (ph : Addr) (pl : Addr) (k1 : ClassId) (k2 : ClassId) (hp : List Value) (ls : List Value) (P : Nat → Int) (W : Nat → Int) (D : Nat → Int) (h0 : Heap) (n0 : Nat) (v9 : Option Value) (h9 : Heap) (L9 : List Loc) : Prop := ∃ (rv : UInt64), v9 = some (.double rv) ∧ Fr n0 L9 ∧ h9 = h0 ∧ (FP.Core.DInt (own_pm 3 0 0 (2 - 1) W D (P 1) 1) rv)
set_option maxRecDepth 65536 in
set_option maxHeartbeats 40000000 in
theorem rm7_2_1 (l : Launch) (Z : State) (a0 : Array Value) (hw : ∀ d ∈ tables_1, d.before a0 Z = true) (ws : List Jvm.Cond) (a : Addr) (ix : Int32) (ph : Addr) (pl : Addr) (k1 : ClassId) (k2 : ClassId) (hp : List Value) (ls : List Value) (P : Nat → Int) (W : Nat → Int) (D : Nat → Int) (h0 : Heap) (n0 : Nat) (Z0 : n0 ≤ h0.size) (Fld_0 : Fld Z h0 a "com/example/arbor_center/arborcenter/objective/UpperEnvelope" "halfPoints" "[D" (.ref ph)) (Fld_1 : Fld Z h0 a "com/example/arbor_center/arborcenter/objective/UpperEnvelope" "count" "I" (.int (2 : Int32))) (Fld_2 : Fld Z h0 a "com/example/arbor_center/arborcenter/objective/UpperEnvelope" "lines" "[D" (.ref pl)) (Arv_3 : Arv Z h0 ph k1 .double (4 : Int32) hp (.double (0 : UInt64))) (Arv_4 : Arv Z h0 pl k2 .double (14 : Int32) ls (.double (0 : UInt64))) (hix : (ix = (1 : Int32))) (hL : (own_Ls ls W D)) (hP : (own_Ps hp P 2)) :
    MetFree l (⟨"com/example/arbor_center/arborcenter/objective/UpperEnvelope", "at", "(I)D"⟩ : MethodName) (head1 (Jvm.Cond.code (⟨"com/example/arbor_center/arborcenter/objective/UpperEnvelope", "at", "(I)D"⟩ : MethodName) prog_12_method_4_code 10 (some .double) :: ws) ({ frames := 1, cells := 0, slots := 0, locals := 15 } : Room)) (fun A9 U9 => A9 = #[(.ref a), (.int ix)] ∧ Z.Warmed39 U9.vm ∧ U9.heap = h0) (fun _ _ _ _ _ => True) (fun _ U9 o9 V9 => ∃ v9 L9, o9 = .returned v9 ∧ (Q7_2_1 Z a ix ph pl k1 k2 hp ls P W D h0 n0) v9 V9.heap L9 ∧ FrameEnd U9 o9 V9 L9 ({ frames := 1, cells := 0, slots := 0, locals := 15 } : Room).cells ({ frames := 1, cells := 0, slots := 0, locals := 15 } : Room).slots) := by
  refine met_of (Q := (Q7_2_1 Z a ix ph pl k1 k2 hp ls P W D h0 n0)) pn_7 ?_
  intro p e s m below meth c T0 C X0 e0
  have N0 := Fr.nil n0
  refine Go.cast (ef_7_2_1 m a ix) ?_
  subst hix
  obtain ⟨px, gx, hx⟩ := hP.2 1 (by decide)
  obtain ⟨u0, v0, gu0, gv0, hl0⟩ := hL.2 0 (by decide)
  obtain ⟨u2, v2, gu2, gv2, hl2⟩ := hL.2 2 (by decide)
  refine waloadN C X0 f7_0 rfl rfl ?_
  refine wget C X0 (host := "") (Or.inl (tw_20 hw)) Via.refl e0 Fld_0 f7_1 ?_
  intro T1 X1 e1
  refine wiloadN C X1 f7_4 rfl ?_
  refine wdaload C X1 e1 Arv_3 f7_5 ⟨by decide, by decide⟩ (i := 1) rfl (v := px) gx ?_
  refine wdstoreN C X1 f7_6 #[.val (.ref a), .val (.int (1 : Int32)), .val (.double px), .second, .unset, .unset, .unset, .unset, .unset, .unset] rfl ?_
  refine wdconst0 C X1 f7_7 ?_
  refine wdstore C X1 f7_8 #[.val (.ref a), .val (.int (1 : Int32)), .val (.double px), .second, .val (.double FP.dconst0), .second, .unset, .unset, .unset, .unset] rfl ?_
  refine wiconst C X1 f7_10 (0 : Int32) rfl ?_
  refine wistore C X1 f7_11 #[.val (.ref a), .val (.int (1 : Int32)), .val (.double px), .second, .val (.double FP.dconst0), .second, .val (.int (0 : Int32)), .unset, .unset, .unset] rfl ?_
  refine wiconst C X1 f7_13 (0 : Int32) rfl ?_
  refine wistore C X1 f7_14 #[.val (.ref a), .val (.int (1 : Int32)), .val (.double px), .second, .val (.double FP.dconst0), .second, .val (.int (0 : Int32)), .val (.int (0 : Int32)), .unset, .unset] rfl ?_
  refine waloadN C X1 f7_16 rfl rfl ?_
  refine wget C X1 (host := "") (Or.inl (tw_29 hw)) Via.refl e1 Fld_1 f7_17 ?_
  intro T2 X2 e2
  refine wiconst C X2 f7_20 (1 : Int32) rfl ?_
  refine wisub C X2 f7_21 ?_
  refine own_foldI (z := (1 : Int32)) (by decide) ?_
  refine wistore C X2 f7_22 #[.val (.ref a), .val (.int (1 : Int32)), .val (.double px), .second, .val (.double FP.dconst0), .second, .val (.int (0 : Int32)), .val (.int (0 : Int32)), .val (.int (1 : Int32)), .unset] rfl ?_
  refine wdload C X2 f7_24 rfl ?_
  refine waloadN C X2 f7_26 rfl rfl ?_
  refine wget C X2 (host := "") (Or.inl (tw_22 hw)) Via.refl e2 Fld_2 f7_27 ?_
  intro T3 X3 e3
  refine wiconst C X3 f7_30 (2 : Int32) rfl ?_
  refine wiload C X3 f7_31 rfl ?_
  refine wimul C X3 f7_33 ?_
  refine own_foldI (z := (0 : Int32)) (by decide) ?_
  refine wdaload C X3 e3 Arv_4 f7_34 ⟨by decide, by decide⟩ (i := 0) rfl (v := u0) gu0 ?_
  refine wdloadN C X3 f7_35 rfl ?_
  refine waloadN C X3 f7_36 rfl rfl ?_
  refine wget C X3 (host := "") (Or.inl (tw_22 hw)) Via.refl e3 Fld_2 f7_37 ?_
  intro T4 X4 e4
  refine wiconst C X4 f7_40 (2 : Int32) rfl ?_
  refine wiload C X4 f7_41 rfl ?_
  refine wimul C X4 f7_43 ?_
  refine own_foldI (z := (0 : Int32)) (by decide) ?_
  refine wiconst C X4 f7_44 (1 : Int32) rfl ?_
  refine wiadd C X4 f7_45 ?_
  refine own_foldI (z := (1 : Int32)) (by decide) ?_
  refine wdaload C X4 e4 Arv_4 f7_46 ⟨by decide, by decide⟩ (i := 1) rfl (v := v0) gv0 ?_
  refine wdadd C X4 f7_47 (v := (FP.dadd px v0)) rfl (own_H_nn (own_pd hx hl0)) ?_
  refine wdmul C X4 f7_48 (v := (FP.dmul u0 (FP.dadd px v0))) rfl (own_H_nn (own_lv hx hl0)) ?_
  refine wmaxD C X4 (tw_42 hw) (tw_43 hw) (tw_2 hw) (tw_44 hw) e4 f7_49 (own_H_nn own_H_0) (own_H_nn (own_lv hx hl0)) rfl (W := 0) (Nat.le_of_eq rfl) (by decide) (by decide) (by decide) (by decide) ?_
  intro T5 X5 e5
  refine wdstore C X5 f7_52 #[.val (.ref a), .val (.int (1 : Int32)), .val (.double px), .second, .val (.double (Jvm.Native.java_lang_Math.nans.pick64 true FP.dconst0 (FP.dmul u0 (FP.dadd px v0)))), .second, .val (.int (0 : Int32)), .val (.int (0 : Int32)), .val (.int (1 : Int32)), .unset] rfl ?_
  refine wiload C X5 f7_54 rfl ?_
  refine wiload C X5 f7_56 rfl ?_
  refine wicmp_ne C X5 f7_58 (fun q => absurd q (by decide : ¬ ((0 : Int32) = (1 : Int32)))) ?_
  intro _
  refine wiload C X5 f7_68 rfl ?_
  refine wiload C X5 f7_70 rfl ?_
  refine wiadd C X5 f7_72 ?_
  refine own_foldI (z := (1 : Int32)) (by decide) ?_
  refine wiconst C X5 f7_73 (1 : Int32) rfl ?_
  refine wiushr C X5 f7_74 ?_
  refine own_foldI (z := (0 : Int32)) (by decide) ?_
  refine wistore C X5 f7_75 #[.val (.ref a), .val (.int (1 : Int32)), .val (.double px), .second, .val (.double (Jvm.Native.java_lang_Math.nans.pick64 true FP.dconst0 (FP.dmul u0 (FP.dadd px v0)))), .second, .val (.int (0 : Int32)), .val (.int (0 : Int32)), .val (.int (1 : Int32)), .val (.int (0 : Int32))] rfl ?_
  refine wiloadN C X5 f7_77 rfl ?_
  refine wiload C X5 f7_78 rfl ?_
  refine wicmp_gt C X5 f7_80 ?_ (fun q => absurd (by decide : ((0 : Int32) < (1 : Int32))) q)
  intro _
  refine wiload C X5 f7_96 rfl ?_
  refine wiconst C X5 f7_98 (2 : Int32) rfl ?_
  refine wiload C X5 f7_99 rfl ?_
  refine wiload C X5 f7_101 rfl ?_
  refine wisub C X5 f7_103 ?_
  refine own_foldI (z := (0 : Int32)) (by decide) ?_
  refine wiconst C X5 f7_104 (1 : Int32) rfl ?_
  refine wiadd C X5 f7_105 ?_
  refine own_foldI (z := (1 : Int32)) (by decide) ?_
  refine wimul C X5 f7_106 ?_
  refine own_foldI (z := (2 : Int32)) (by decide) ?_
  refine wiadd C X5 f7_107 ?_
  refine own_foldI (z := (2 : Int32)) (by decide) ?_
  refine wistore C X5 f7_108 #[.val (.ref a), .val (.int (1 : Int32)), .val (.double px), .second, .val (.double (Jvm.Native.java_lang_Math.nans.pick64 true FP.dconst0 (FP.dmul u0 (FP.dadd px v0)))), .second, .val (.int (2 : Int32)), .val (.int (0 : Int32)), .val (.int (1 : Int32)), .val (.int (0 : Int32))] rfl ?_
  refine wiload C X5 f7_110 rfl ?_
  refine wiconst C X5 f7_112 (1 : Int32) rfl ?_
  refine wiadd C X5 f7_113 ?_
  refine own_foldI (z := (1 : Int32)) (by decide) ?_
  refine wistore C X5 f7_114 #[.val (.ref a), .val (.int (1 : Int32)), .val (.double px), .second, .val (.double (Jvm.Native.java_lang_Math.nans.pick64 true FP.dconst0 (FP.dmul u0 (FP.dadd px v0)))), .second, .val (.int (2 : Int32)), .val (.int (1 : Int32)), .val (.int (1 : Int32)), .val (.int (0 : Int32))] rfl ?_
  refine wgoto C X5 f7_116 ?_
  refine wdload C X5 f7_24 rfl ?_
  refine waloadN C X5 f7_26 rfl rfl ?_
  refine wget C X5 (host := "") (Or.inl (tw_22 hw)) Via.refl e5 Fld_2 f7_27 ?_
  intro T6 X6 e6
  refine wiconst C X6 f7_30 (2 : Int32) rfl ?_
  refine wiload C X6 f7_31 rfl ?_
  refine wimul C X6 f7_33 ?_
  refine own_foldI (z := (4 : Int32)) (by decide) ?_
  refine wdaload C X6 e6 Arv_4 f7_34 ⟨by decide, by decide⟩ (i := 4) rfl (v := u2) gu2 ?_
  refine wdloadN C X6 f7_35 rfl ?_
  refine waloadN C X6 f7_36 rfl rfl ?_
  refine wget C X6 (host := "") (Or.inl (tw_22 hw)) Via.refl e6 Fld_2 f7_37 ?_
  intro T7 X7 e7
  refine wiconst C X7 f7_40 (2 : Int32) rfl ?_
  refine wiload C X7 f7_41 rfl ?_
  refine wimul C X7 f7_43 ?_
  refine own_foldI (z := (4 : Int32)) (by decide) ?_
  refine wiconst C X7 f7_44 (1 : Int32) rfl ?_
  refine wiadd C X7 f7_45 ?_
  refine own_foldI (z := (5 : Int32)) (by decide) ?_
  refine wdaload C X7 e7 Arv_4 f7_46 ⟨by decide, by decide⟩ (i := 5) rfl (v := v2) gv2 ?_
  refine wdadd C X7 f7_47 (v := (FP.dadd px v2)) rfl (own_H_nn (own_pd hx hl2)) ?_
  refine wdmul C X7 f7_48 (v := (FP.dmul u2 (FP.dadd px v2))) rfl (own_H_nn (own_lv hx hl2)) ?_
  refine wmaxD C X7 (tw_42 hw) (tw_43 hw) (tw_2 hw) (tw_44 hw) e7 f7_49 (own_H_nn (own_H_max own_H_0 (own_lv hx hl0))) (own_H_nn (own_lv hx hl2)) rfl (W := 0) (Nat.le_of_eq rfl) (by decide) (by decide) (by decide) (by decide) ?_
  intro T8 X8 e8
  refine wdstore C X8 f7_52 #[.val (.ref a), .val (.int (1 : Int32)), .val (.double px), .second, .val (.double (Jvm.Native.java_lang_Math.nans.pick64 true (Jvm.Native.java_lang_Math.nans.pick64 true FP.dconst0 (FP.dmul u0 (FP.dadd px v0))) (FP.dmul u2 (FP.dadd px v2)))), .second, .val (.int (2 : Int32)), .val (.int (1 : Int32)), .val (.int (1 : Int32)), .val (.int (0 : Int32))] rfl ?_
  refine wiload C X8 f7_54 rfl ?_
  refine wiload C X8 f7_56 rfl ?_
  refine wicmp_ne C X8 f7_58 ?_ (fun q => absurd (by decide : ((1 : Int32) = (1 : Int32))) q)
  intro _
  refine wldc2D C X8 (tw_31 hw) f7_61 ?_
  refine wdload C X8 f7_64 rfl ?_
  refine wdmul C X8 f7_66 (v := (FP.dmul (4611686018427387904 : UInt64) (Jvm.Native.java_lang_Math.nans.pick64 true (Jvm.Native.java_lang_Math.nans.pick64 true FP.dconst0 (FP.dmul u0 (FP.dadd px v0))) (FP.dmul u2 (FP.dadd px v2))))) rfl (own_nn (own_H_dbl (own_H_max (own_H_max own_H_0 (own_lv hx hl0)) (own_lv hx hl2)) (by have z0 := own_lvb hx hl0; have z2 := own_lvb hx hl2; omega))) ?_
  refine wdret C X8 f7_67 rfl (by decide) (by decide) ?_
  rw [e8]
  exact ⟨(FP.dmul (4611686018427387904 : UInt64) (Jvm.Native.java_lang_Math.nans.pick64 true (Jvm.Native.java_lang_Math.nans.pick64 true FP.dconst0 (FP.dmul u0 (FP.dadd px v0))) (FP.dmul u2 (FP.dadd px v2)))), rfl, N0, rfl, (by have z0 := own_lvb hx hl0; have z2 := own_lvb hx hl2; simp only [own_pm]; exact own_di (own_H_dbl (own_H_max (own_H_max own_H_0 (own_lv hx hl0)) (own_lv hx hl2)) (by omega)) (by simp; omega))⟩
theorem ef_7_3_0 (m : MethodId) (a : Addr) (ix : Int32) : entryFrame m #[(.ref a), (.int ix)] 10 = mkF m 0 #[.val (.ref a), .val (.int ix), .unset, .unset, .unset, .unset, .unset, .unset, .unset, .unset] [] := by first | (simp [entryFrame, mkF, argsToLocals, Value.category]; done) | rfl
def Q7_3_0 (Z : State) (a : Addr) (ix : Int32) (ph : Addr) (pl : Addr) (k1 : ClassId) (k2 : ClassId) (hp : List Value) (ls : List Value) (P : Nat → Int) (W : Nat → Int) (D : Nat → Int) (h0 : Heap) (n0 : Nat) (v9 : Option Value) (h9 : Heap) (L9 : List Loc) : Prop := ∃ (rv : UInt64), v9 = some (.double rv) ∧ Fr n0 L9 ∧ h9 = h0 ∧ (FP.Core.DInt (own_pm 3 0 0 (3 - 1) W D (P 0) 0) rv)
set_option maxRecDepth 65536 in
set_option maxHeartbeats 40000000 in
theorem rm7_3_0 (l : Launch) (Z : State) (a0 : Array Value) (hw : ∀ d ∈ tables_1, d.before a0 Z = true) (ws : List Jvm.Cond) (a : Addr) (ix : Int32) (ph : Addr) (pl : Addr) (k1 : ClassId) (k2 : ClassId) (hp : List Value) (ls : List Value) (P : Nat → Int) (W : Nat → Int) (D : Nat → Int) (h0 : Heap) (n0 : Nat) (Z0 : n0 ≤ h0.size) (Fld_0 : Fld Z h0 a "com/example/arbor_center/arborcenter/objective/UpperEnvelope" "halfPoints" "[D" (.ref ph)) (Fld_1 : Fld Z h0 a "com/example/arbor_center/arborcenter/objective/UpperEnvelope" "count" "I" (.int (3 : Int32))) (Fld_2 : Fld Z h0 a "com/example/arbor_center/arborcenter/objective/UpperEnvelope" "lines" "[D" (.ref pl)) (Arv_3 : Arv Z h0 ph k1 .double (4 : Int32) hp (.double (0 : UInt64))) (Arv_4 : Arv Z h0 pl k2 .double (14 : Int32) ls (.double (0 : UInt64))) (hix : (ix = (0 : Int32))) (hL : (own_Ls ls W D)) (hP : (own_Ps hp P 3)) :
    MetFree l (⟨"com/example/arbor_center/arborcenter/objective/UpperEnvelope", "at", "(I)D"⟩ : MethodName) (head1 (Jvm.Cond.code (⟨"com/example/arbor_center/arborcenter/objective/UpperEnvelope", "at", "(I)D"⟩ : MethodName) prog_12_method_4_code 10 (some .double) :: ws) ({ frames := 1, cells := 0, slots := 0, locals := 15 } : Room)) (fun A9 U9 => A9 = #[(.ref a), (.int ix)] ∧ Z.Warmed39 U9.vm ∧ U9.heap = h0) (fun _ _ _ _ _ => True) (fun _ U9 o9 V9 => ∃ v9 L9, o9 = .returned v9 ∧ (Q7_3_0 Z a ix ph pl k1 k2 hp ls P W D h0 n0) v9 V9.heap L9 ∧ FrameEnd U9 o9 V9 L9 ({ frames := 1, cells := 0, slots := 0, locals := 15 } : Room).cells ({ frames := 1, cells := 0, slots := 0, locals := 15 } : Room).slots) := by
  refine met_of (Q := (Q7_3_0 Z a ix ph pl k1 k2 hp ls P W D h0 n0)) pn_7 ?_
  intro p e s m below meth c T0 C X0 e0
  have N0 := Fr.nil n0
  refine Go.cast (ef_7_3_0 m a ix) ?_
  subst hix
  obtain ⟨px, gx, hx⟩ := hP.2 0 (by decide)
  obtain ⟨u0, v0, gu0, gv0, hl0⟩ := hL.2 0 (by decide)
  obtain ⟨u1, v1, gu1, gv1, hl1⟩ := hL.2 1 (by decide)
  obtain ⟨u2, v2, gu2, gv2, hl2⟩ := hL.2 2 (by decide)
  refine waloadN C X0 f7_0 rfl rfl ?_
  refine wget C X0 (host := "") (Or.inl (tw_20 hw)) Via.refl e0 Fld_0 f7_1 ?_
  intro T1 X1 e1
  refine wiloadN C X1 f7_4 rfl ?_
  refine wdaload C X1 e1 Arv_3 f7_5 ⟨by decide, by decide⟩ (i := 0) rfl (v := px) gx ?_
  refine wdstoreN C X1 f7_6 #[.val (.ref a), .val (.int (0 : Int32)), .val (.double px), .second, .unset, .unset, .unset, .unset, .unset, .unset] rfl ?_
  refine wdconst0 C X1 f7_7 ?_
  refine wdstore C X1 f7_8 #[.val (.ref a), .val (.int (0 : Int32)), .val (.double px), .second, .val (.double FP.dconst0), .second, .unset, .unset, .unset, .unset] rfl ?_
  refine wiconst C X1 f7_10 (0 : Int32) rfl ?_
  refine wistore C X1 f7_11 #[.val (.ref a), .val (.int (0 : Int32)), .val (.double px), .second, .val (.double FP.dconst0), .second, .val (.int (0 : Int32)), .unset, .unset, .unset] rfl ?_
  refine wiconst C X1 f7_13 (0 : Int32) rfl ?_
  refine wistore C X1 f7_14 #[.val (.ref a), .val (.int (0 : Int32)), .val (.double px), .second, .val (.double FP.dconst0), .second, .val (.int (0 : Int32)), .val (.int (0 : Int32)), .unset, .unset] rfl ?_
  refine waloadN C X1 f7_16 rfl rfl ?_
  refine wget C X1 (host := "") (Or.inl (tw_29 hw)) Via.refl e1 Fld_1 f7_17 ?_
  intro T2 X2 e2
  refine wiconst C X2 f7_20 (1 : Int32) rfl ?_
  refine wisub C X2 f7_21 ?_
  refine own_foldI (z := (2 : Int32)) (by decide) ?_
  refine wistore C X2 f7_22 #[.val (.ref a), .val (.int (0 : Int32)), .val (.double px), .second, .val (.double FP.dconst0), .second, .val (.int (0 : Int32)), .val (.int (0 : Int32)), .val (.int (2 : Int32)), .unset] rfl ?_
  refine wdload C X2 f7_24 rfl ?_
  refine waloadN C X2 f7_26 rfl rfl ?_
  refine wget C X2 (host := "") (Or.inl (tw_22 hw)) Via.refl e2 Fld_2 f7_27 ?_
  intro T3 X3 e3
  refine wiconst C X3 f7_30 (2 : Int32) rfl ?_
  refine wiload C X3 f7_31 rfl ?_
  refine wimul C X3 f7_33 ?_
  refine own_foldI (z := (0 : Int32)) (by decide) ?_
  refine wdaload C X3 e3 Arv_4 f7_34 ⟨by decide, by decide⟩ (i := 0) rfl (v := u0) gu0 ?_
  refine wdloadN C X3 f7_35 rfl ?_
  refine waloadN C X3 f7_36 rfl rfl ?_
  refine wget C X3 (host := "") (Or.inl (tw_22 hw)) Via.refl e3 Fld_2 f7_37 ?_
  intro T4 X4 e4
  refine wiconst C X4 f7_40 (2 : Int32) rfl ?_
  refine wiload C X4 f7_41 rfl ?_
  refine wimul C X4 f7_43 ?_
  refine own_foldI (z := (0 : Int32)) (by decide) ?_
  refine wiconst C X4 f7_44 (1 : Int32) rfl ?_
  refine wiadd C X4 f7_45 ?_
  refine own_foldI (z := (1 : Int32)) (by decide) ?_
  refine wdaload C X4 e4 Arv_4 f7_46 ⟨by decide, by decide⟩ (i := 1) rfl (v := v0) gv0 ?_
  refine wdadd C X4 f7_47 (v := (FP.dadd px v0)) rfl (own_H_nn (own_pd hx hl0)) ?_
  refine wdmul C X4 f7_48 (v := (FP.dmul u0 (FP.dadd px v0))) rfl (own_H_nn (own_lv hx hl0)) ?_
  refine wmaxD C X4 (tw_42 hw) (tw_43 hw) (tw_2 hw) (tw_44 hw) e4 f7_49 (own_H_nn own_H_0) (own_H_nn (own_lv hx hl0)) rfl (W := 0) (Nat.le_of_eq rfl) (by decide) (by decide) (by decide) (by decide) ?_
  intro T5 X5 e5
  refine wdstore C X5 f7_52 #[.val (.ref a), .val (.int (0 : Int32)), .val (.double px), .second, .val (.double (Jvm.Native.java_lang_Math.nans.pick64 true FP.dconst0 (FP.dmul u0 (FP.dadd px v0)))), .second, .val (.int (0 : Int32)), .val (.int (0 : Int32)), .val (.int (2 : Int32)), .unset] rfl ?_
  refine wiload C X5 f7_54 rfl ?_
  refine wiload C X5 f7_56 rfl ?_
  refine wicmp_ne C X5 f7_58 (fun q => absurd q (by decide : ¬ ((0 : Int32) = (2 : Int32)))) ?_
  intro _
  refine wiload C X5 f7_68 rfl ?_
  refine wiload C X5 f7_70 rfl ?_
  refine wiadd C X5 f7_72 ?_
  refine own_foldI (z := (2 : Int32)) (by decide) ?_
  refine wiconst C X5 f7_73 (1 : Int32) rfl ?_
  refine wiushr C X5 f7_74 ?_
  refine own_foldI (z := (1 : Int32)) (by decide) ?_
  refine wistore C X5 f7_75 #[.val (.ref a), .val (.int (0 : Int32)), .val (.double px), .second, .val (.double (Jvm.Native.java_lang_Math.nans.pick64 true FP.dconst0 (FP.dmul u0 (FP.dadd px v0)))), .second, .val (.int (0 : Int32)), .val (.int (0 : Int32)), .val (.int (2 : Int32)), .val (.int (1 : Int32))] rfl ?_
  refine wiloadN C X5 f7_77 rfl ?_
  refine wiload C X5 f7_78 rfl ?_
  refine wicmp_gt C X5 f7_80 (fun q => absurd q (by decide : ¬ ((1 : Int32) < (0 : Int32)))) ?_
  intro _
  refine wiload C X5 f7_83 rfl ?_
  refine wiconst C X5 f7_85 (1 : Int32) rfl ?_
  refine wiadd C X5 f7_86 ?_
  refine own_foldI (z := (1 : Int32)) (by decide) ?_
  refine wistore C X5 f7_87 #[.val (.ref a), .val (.int (0 : Int32)), .val (.double px), .second, .val (.double (Jvm.Native.java_lang_Math.nans.pick64 true FP.dconst0 (FP.dmul u0 (FP.dadd px v0)))), .second, .val (.int (1 : Int32)), .val (.int (0 : Int32)), .val (.int (2 : Int32)), .val (.int (1 : Int32))] rfl ?_
  refine wiload C X5 f7_89 rfl ?_
  refine wistore C X5 f7_91 #[.val (.ref a), .val (.int (0 : Int32)), .val (.double px), .second, .val (.double (Jvm.Native.java_lang_Math.nans.pick64 true FP.dconst0 (FP.dmul u0 (FP.dadd px v0)))), .second, .val (.int (1 : Int32)), .val (.int (0 : Int32)), .val (.int (1 : Int32)), .val (.int (1 : Int32))] rfl ?_
  refine wgoto C X5 f7_93 ?_
  refine wgoto C X5 f7_116 ?_
  refine wdload C X5 f7_24 rfl ?_
  refine waloadN C X5 f7_26 rfl rfl ?_
  refine wget C X5 (host := "") (Or.inl (tw_22 hw)) Via.refl e5 Fld_2 f7_27 ?_
  intro T6 X6 e6
  refine wiconst C X6 f7_30 (2 : Int32) rfl ?_
  refine wiload C X6 f7_31 rfl ?_
  refine wimul C X6 f7_33 ?_
  refine own_foldI (z := (2 : Int32)) (by decide) ?_
  refine wdaload C X6 e6 Arv_4 f7_34 ⟨by decide, by decide⟩ (i := 2) rfl (v := u1) gu1 ?_
  refine wdloadN C X6 f7_35 rfl ?_
  refine waloadN C X6 f7_36 rfl rfl ?_
  refine wget C X6 (host := "") (Or.inl (tw_22 hw)) Via.refl e6 Fld_2 f7_37 ?_
  intro T7 X7 e7
  refine wiconst C X7 f7_40 (2 : Int32) rfl ?_
  refine wiload C X7 f7_41 rfl ?_
  refine wimul C X7 f7_43 ?_
  refine own_foldI (z := (2 : Int32)) (by decide) ?_
  refine wiconst C X7 f7_44 (1 : Int32) rfl ?_
  refine wiadd C X7 f7_45 ?_
  refine own_foldI (z := (3 : Int32)) (by decide) ?_
  refine wdaload C X7 e7 Arv_4 f7_46 ⟨by decide, by decide⟩ (i := 3) rfl (v := v1) gv1 ?_
  refine wdadd C X7 f7_47 (v := (FP.dadd px v1)) rfl (own_H_nn (own_pd hx hl1)) ?_
  refine wdmul C X7 f7_48 (v := (FP.dmul u1 (FP.dadd px v1))) rfl (own_H_nn (own_lv hx hl1)) ?_
  refine wmaxD C X7 (tw_42 hw) (tw_43 hw) (tw_2 hw) (tw_44 hw) e7 f7_49 (own_H_nn (own_H_max own_H_0 (own_lv hx hl0))) (own_H_nn (own_lv hx hl1)) rfl (W := 0) (Nat.le_of_eq rfl) (by decide) (by decide) (by decide) (by decide) ?_
  intro T8 X8 e8
  refine wdstore C X8 f7_52 #[.val (.ref a), .val (.int (0 : Int32)), .val (.double px), .second, .val (.double (Jvm.Native.java_lang_Math.nans.pick64 true (Jvm.Native.java_lang_Math.nans.pick64 true FP.dconst0 (FP.dmul u0 (FP.dadd px v0))) (FP.dmul u1 (FP.dadd px v1)))), .second, .val (.int (1 : Int32)), .val (.int (0 : Int32)), .val (.int (1 : Int32)), .val (.int (1 : Int32))] rfl ?_
  refine wiload C X8 f7_54 rfl ?_
  refine wiload C X8 f7_56 rfl ?_
  refine wicmp_ne C X8 f7_58 (fun q => absurd q (by decide : ¬ ((0 : Int32) = (1 : Int32)))) ?_
  intro _
  refine wiload C X8 f7_68 rfl ?_
  refine wiload C X8 f7_70 rfl ?_
  refine wiadd C X8 f7_72 ?_
  refine own_foldI (z := (1 : Int32)) (by decide) ?_
  refine wiconst C X8 f7_73 (1 : Int32) rfl ?_
  refine wiushr C X8 f7_74 ?_
  refine own_foldI (z := (0 : Int32)) (by decide) ?_
  refine wistore C X8 f7_75 #[.val (.ref a), .val (.int (0 : Int32)), .val (.double px), .second, .val (.double (Jvm.Native.java_lang_Math.nans.pick64 true (Jvm.Native.java_lang_Math.nans.pick64 true FP.dconst0 (FP.dmul u0 (FP.dadd px v0))) (FP.dmul u1 (FP.dadd px v1)))), .second, .val (.int (1 : Int32)), .val (.int (0 : Int32)), .val (.int (1 : Int32)), .val (.int (0 : Int32))] rfl ?_
  refine wiloadN C X8 f7_77 rfl ?_
  refine wiload C X8 f7_78 rfl ?_
  refine wicmp_gt C X8 f7_80 (fun q => absurd q (by decide : ¬ ((0 : Int32) < (0 : Int32)))) ?_
  intro _
  refine wiload C X8 f7_83 rfl ?_
  refine wiconst C X8 f7_85 (1 : Int32) rfl ?_
  refine wiadd C X8 f7_86 ?_
  refine own_foldI (z := (2 : Int32)) (by decide) ?_
  refine wistore C X8 f7_87 #[.val (.ref a), .val (.int (0 : Int32)), .val (.double px), .second, .val (.double (Jvm.Native.java_lang_Math.nans.pick64 true (Jvm.Native.java_lang_Math.nans.pick64 true FP.dconst0 (FP.dmul u0 (FP.dadd px v0))) (FP.dmul u1 (FP.dadd px v1)))), .second, .val (.int (2 : Int32)), .val (.int (0 : Int32)), .val (.int (1 : Int32)), .val (.int (0 : Int32))] rfl ?_
  refine wiload C X8 f7_89 rfl ?_
  refine wistore C X8 f7_91 #[.val (.ref a), .val (.int (0 : Int32)), .val (.double px), .second, .val (.double (Jvm.Native.java_lang_Math.nans.pick64 true (Jvm.Native.java_lang_Math.nans.pick64 true FP.dconst0 (FP.dmul u0 (FP.dadd px v0))) (FP.dmul u1 (FP.dadd px v1)))), .second, .val (.int (2 : Int32)), .val (.int (0 : Int32)), .val (.int (0 : Int32)), .val (.int (0 : Int32))] rfl ?_
  refine wgoto C X8 f7_93 ?_
  refine wgoto C X8 f7_116 ?_
  refine wdload C X8 f7_24 rfl ?_
  refine waloadN C X8 f7_26 rfl rfl ?_
  refine wget C X8 (host := "") (Or.inl (tw_22 hw)) Via.refl e8 Fld_2 f7_27 ?_
  intro T9 X9 e9
  refine wiconst C X9 f7_30 (2 : Int32) rfl ?_
  refine wiload C X9 f7_31 rfl ?_
  refine wimul C X9 f7_33 ?_
  refine own_foldI (z := (4 : Int32)) (by decide) ?_
  refine wdaload C X9 e9 Arv_4 f7_34 ⟨by decide, by decide⟩ (i := 4) rfl (v := u2) gu2 ?_
  refine wdloadN C X9 f7_35 rfl ?_
  refine waloadN C X9 f7_36 rfl rfl ?_
  refine wget C X9 (host := "") (Or.inl (tw_22 hw)) Via.refl e9 Fld_2 f7_37 ?_
  intro T10 X10 e10
  refine wiconst C X10 f7_40 (2 : Int32) rfl ?_
  refine wiload C X10 f7_41 rfl ?_
  refine wimul C X10 f7_43 ?_
  refine own_foldI (z := (4 : Int32)) (by decide) ?_
  refine wiconst C X10 f7_44 (1 : Int32) rfl ?_
  refine wiadd C X10 f7_45 ?_
  refine own_foldI (z := (5 : Int32)) (by decide) ?_
  refine wdaload C X10 e10 Arv_4 f7_46 ⟨by decide, by decide⟩ (i := 5) rfl (v := v2) gv2 ?_
  refine wdadd C X10 f7_47 (v := (FP.dadd px v2)) rfl (own_H_nn (own_pd hx hl2)) ?_
  refine wdmul C X10 f7_48 (v := (FP.dmul u2 (FP.dadd px v2))) rfl (own_H_nn (own_lv hx hl2)) ?_
  refine wmaxD C X10 (tw_42 hw) (tw_43 hw) (tw_2 hw) (tw_44 hw) e10 f7_49 (own_H_nn (own_H_max (own_H_max own_H_0 (own_lv hx hl0)) (own_lv hx hl1))) (own_H_nn (own_lv hx hl2)) rfl (W := 0) (Nat.le_of_eq rfl) (by decide) (by decide) (by decide) (by decide) ?_
  intro T11 X11 e11
  refine wdstore C X11 f7_52 #[.val (.ref a), .val (.int (0 : Int32)), .val (.double px), .second, .val (.double (Jvm.Native.java_lang_Math.nans.pick64 true (Jvm.Native.java_lang_Math.nans.pick64 true (Jvm.Native.java_lang_Math.nans.pick64 true FP.dconst0 (FP.dmul u0 (FP.dadd px v0))) (FP.dmul u1 (FP.dadd px v1))) (FP.dmul u2 (FP.dadd px v2)))), .second, .val (.int (2 : Int32)), .val (.int (0 : Int32)), .val (.int (0 : Int32)), .val (.int (0 : Int32))] rfl ?_
  refine wiload C X11 f7_54 rfl ?_
  refine wiload C X11 f7_56 rfl ?_
  refine wicmp_ne C X11 f7_58 ?_ (fun q => absurd (by decide : ((0 : Int32) = (0 : Int32))) q)
  intro _
  refine wldc2D C X11 (tw_31 hw) f7_61 ?_
  refine wdload C X11 f7_64 rfl ?_
  refine wdmul C X11 f7_66 (v := (FP.dmul (4611686018427387904 : UInt64) (Jvm.Native.java_lang_Math.nans.pick64 true (Jvm.Native.java_lang_Math.nans.pick64 true (Jvm.Native.java_lang_Math.nans.pick64 true FP.dconst0 (FP.dmul u0 (FP.dadd px v0))) (FP.dmul u1 (FP.dadd px v1))) (FP.dmul u2 (FP.dadd px v2))))) rfl (own_nn (own_H_dbl (own_H_max (own_H_max (own_H_max own_H_0 (own_lv hx hl0)) (own_lv hx hl1)) (own_lv hx hl2)) (by have z0 := own_lvb hx hl0; have z1 := own_lvb hx hl1; have z2 := own_lvb hx hl2; omega))) ?_
  refine wdret C X11 f7_67 rfl (by decide) (by decide) ?_
  rw [e11]
  exact ⟨(FP.dmul (4611686018427387904 : UInt64) (Jvm.Native.java_lang_Math.nans.pick64 true (Jvm.Native.java_lang_Math.nans.pick64 true (Jvm.Native.java_lang_Math.nans.pick64 true FP.dconst0 (FP.dmul u0 (FP.dadd px v0))) (FP.dmul u1 (FP.dadd px v1))) (FP.dmul u2 (FP.dadd px v2)))), rfl, N0, rfl, (by have z0 := own_lvb hx hl0; have z1 := own_lvb hx hl1; have z2 := own_lvb hx hl2; simp only [own_pm]; exact own_di (own_H_dbl (own_H_max (own_H_max (own_H_max own_H_0 (own_lv hx hl0)) (own_lv hx hl1)) (own_lv hx hl2)) (by omega)) (by simp; omega))⟩
theorem ef_7_3_1 (m : MethodId) (a : Addr) (ix : Int32) : entryFrame m #[(.ref a), (.int ix)] 10 = mkF m 0 #[.val (.ref a), .val (.int ix), .unset, .unset, .unset, .unset, .unset, .unset, .unset, .unset] [] := by first | (simp [entryFrame, mkF, argsToLocals, Value.category]; done) | rfl
def Q7_3_1 (Z : State) (a : Addr) (ix : Int32) (ph : Addr) (pl : Addr) (k1 : ClassId) (k2 : ClassId) (hp : List Value) (ls : List Value) (P : Nat → Int) (W : Nat → Int) (D : Nat → Int) (h0 : Heap) (n0 : Nat) (v9 : Option Value) (h9 : Heap) (L9 : List Loc) : Prop := ∃ (rv : UInt64), v9 = some (.double rv) ∧ Fr n0 L9 ∧ h9 = h0 ∧ (FP.Core.DInt (own_pm 3 0 0 (3 - 1) W D (P 1) 1) rv)
set_option maxRecDepth 65536 in
set_option maxHeartbeats 40000000 in
theorem rm7_3_1 (l : Launch) (Z : State) (a0 : Array Value) (hw : ∀ d ∈ tables_1, d.before a0 Z = true) (ws : List Jvm.Cond) (a : Addr) (ix : Int32) (ph : Addr) (pl : Addr) (k1 : ClassId) (k2 : ClassId) (hp : List Value) (ls : List Value) (P : Nat → Int) (W : Nat → Int) (D : Nat → Int) (h0 : Heap) (n0 : Nat) (Z0 : n0 ≤ h0.size) (Fld_0 : Fld Z h0 a "com/example/arbor_center/arborcenter/objective/UpperEnvelope" "halfPoints" "[D" (.ref ph)) (Fld_1 : Fld Z h0 a "com/example/arbor_center/arborcenter/objective/UpperEnvelope" "count" "I" (.int (3 : Int32))) (Fld_2 : Fld Z h0 a "com/example/arbor_center/arborcenter/objective/UpperEnvelope" "lines" "[D" (.ref pl)) (Arv_3 : Arv Z h0 ph k1 .double (4 : Int32) hp (.double (0 : UInt64))) (Arv_4 : Arv Z h0 pl k2 .double (14 : Int32) ls (.double (0 : UInt64))) (hix : (ix = (1 : Int32))) (hL : (own_Ls ls W D)) (hP : (own_Ps hp P 3)) :
    MetFree l (⟨"com/example/arbor_center/arborcenter/objective/UpperEnvelope", "at", "(I)D"⟩ : MethodName) (head1 (Jvm.Cond.code (⟨"com/example/arbor_center/arborcenter/objective/UpperEnvelope", "at", "(I)D"⟩ : MethodName) prog_12_method_4_code 10 (some .double) :: ws) ({ frames := 1, cells := 0, slots := 0, locals := 15 } : Room)) (fun A9 U9 => A9 = #[(.ref a), (.int ix)] ∧ Z.Warmed39 U9.vm ∧ U9.heap = h0) (fun _ _ _ _ _ => True) (fun _ U9 o9 V9 => ∃ v9 L9, o9 = .returned v9 ∧ (Q7_3_1 Z a ix ph pl k1 k2 hp ls P W D h0 n0) v9 V9.heap L9 ∧ FrameEnd U9 o9 V9 L9 ({ frames := 1, cells := 0, slots := 0, locals := 15 } : Room).cells ({ frames := 1, cells := 0, slots := 0, locals := 15 } : Room).slots) := by
  refine met_of (Q := (Q7_3_1 Z a ix ph pl k1 k2 hp ls P W D h0 n0)) pn_7 ?_
  intro p e s m below meth c T0 C X0 e0
  have N0 := Fr.nil n0
  refine Go.cast (ef_7_3_1 m a ix) ?_
  subst hix
  obtain ⟨px, gx, hx⟩ := hP.2 1 (by decide)
  obtain ⟨u0, v0, gu0, gv0, hl0⟩ := hL.2 0 (by decide)
  obtain ⟨u1, v1, gu1, gv1, hl1⟩ := hL.2 1 (by decide)
  obtain ⟨u3, v3, gu3, gv3, hl3⟩ := hL.2 3 (by decide)
  refine waloadN C X0 f7_0 rfl rfl ?_
  refine wget C X0 (host := "") (Or.inl (tw_20 hw)) Via.refl e0 Fld_0 f7_1 ?_
  intro T1 X1 e1
  refine wiloadN C X1 f7_4 rfl ?_
  refine wdaload C X1 e1 Arv_3 f7_5 ⟨by decide, by decide⟩ (i := 1) rfl (v := px) gx ?_
  refine wdstoreN C X1 f7_6 #[.val (.ref a), .val (.int (1 : Int32)), .val (.double px), .second, .unset, .unset, .unset, .unset, .unset, .unset] rfl ?_
  refine wdconst0 C X1 f7_7 ?_
  refine wdstore C X1 f7_8 #[.val (.ref a), .val (.int (1 : Int32)), .val (.double px), .second, .val (.double FP.dconst0), .second, .unset, .unset, .unset, .unset] rfl ?_
  refine wiconst C X1 f7_10 (0 : Int32) rfl ?_
  refine wistore C X1 f7_11 #[.val (.ref a), .val (.int (1 : Int32)), .val (.double px), .second, .val (.double FP.dconst0), .second, .val (.int (0 : Int32)), .unset, .unset, .unset] rfl ?_
  refine wiconst C X1 f7_13 (0 : Int32) rfl ?_
  refine wistore C X1 f7_14 #[.val (.ref a), .val (.int (1 : Int32)), .val (.double px), .second, .val (.double FP.dconst0), .second, .val (.int (0 : Int32)), .val (.int (0 : Int32)), .unset, .unset] rfl ?_
  refine waloadN C X1 f7_16 rfl rfl ?_
  refine wget C X1 (host := "") (Or.inl (tw_29 hw)) Via.refl e1 Fld_1 f7_17 ?_
  intro T2 X2 e2
  refine wiconst C X2 f7_20 (1 : Int32) rfl ?_
  refine wisub C X2 f7_21 ?_
  refine own_foldI (z := (2 : Int32)) (by decide) ?_
  refine wistore C X2 f7_22 #[.val (.ref a), .val (.int (1 : Int32)), .val (.double px), .second, .val (.double FP.dconst0), .second, .val (.int (0 : Int32)), .val (.int (0 : Int32)), .val (.int (2 : Int32)), .unset] rfl ?_
  refine wdload C X2 f7_24 rfl ?_
  refine waloadN C X2 f7_26 rfl rfl ?_
  refine wget C X2 (host := "") (Or.inl (tw_22 hw)) Via.refl e2 Fld_2 f7_27 ?_
  intro T3 X3 e3
  refine wiconst C X3 f7_30 (2 : Int32) rfl ?_
  refine wiload C X3 f7_31 rfl ?_
  refine wimul C X3 f7_33 ?_
  refine own_foldI (z := (0 : Int32)) (by decide) ?_
  refine wdaload C X3 e3 Arv_4 f7_34 ⟨by decide, by decide⟩ (i := 0) rfl (v := u0) gu0 ?_
  refine wdloadN C X3 f7_35 rfl ?_
  refine waloadN C X3 f7_36 rfl rfl ?_
  refine wget C X3 (host := "") (Or.inl (tw_22 hw)) Via.refl e3 Fld_2 f7_37 ?_
  intro T4 X4 e4
  refine wiconst C X4 f7_40 (2 : Int32) rfl ?_
  refine wiload C X4 f7_41 rfl ?_
  refine wimul C X4 f7_43 ?_
  refine own_foldI (z := (0 : Int32)) (by decide) ?_
  refine wiconst C X4 f7_44 (1 : Int32) rfl ?_
  refine wiadd C X4 f7_45 ?_
  refine own_foldI (z := (1 : Int32)) (by decide) ?_
  refine wdaload C X4 e4 Arv_4 f7_46 ⟨by decide, by decide⟩ (i := 1) rfl (v := v0) gv0 ?_
  refine wdadd C X4 f7_47 (v := (FP.dadd px v0)) rfl (own_H_nn (own_pd hx hl0)) ?_
  refine wdmul C X4 f7_48 (v := (FP.dmul u0 (FP.dadd px v0))) rfl (own_H_nn (own_lv hx hl0)) ?_
  refine wmaxD C X4 (tw_42 hw) (tw_43 hw) (tw_2 hw) (tw_44 hw) e4 f7_49 (own_H_nn own_H_0) (own_H_nn (own_lv hx hl0)) rfl (W := 0) (Nat.le_of_eq rfl) (by decide) (by decide) (by decide) (by decide) ?_
  intro T5 X5 e5
  refine wdstore C X5 f7_52 #[.val (.ref a), .val (.int (1 : Int32)), .val (.double px), .second, .val (.double (Jvm.Native.java_lang_Math.nans.pick64 true FP.dconst0 (FP.dmul u0 (FP.dadd px v0)))), .second, .val (.int (0 : Int32)), .val (.int (0 : Int32)), .val (.int (2 : Int32)), .unset] rfl ?_
  refine wiload C X5 f7_54 rfl ?_
  refine wiload C X5 f7_56 rfl ?_
  refine wicmp_ne C X5 f7_58 (fun q => absurd q (by decide : ¬ ((0 : Int32) = (2 : Int32)))) ?_
  intro _
  refine wiload C X5 f7_68 rfl ?_
  refine wiload C X5 f7_70 rfl ?_
  refine wiadd C X5 f7_72 ?_
  refine own_foldI (z := (2 : Int32)) (by decide) ?_
  refine wiconst C X5 f7_73 (1 : Int32) rfl ?_
  refine wiushr C X5 f7_74 ?_
  refine own_foldI (z := (1 : Int32)) (by decide) ?_
  refine wistore C X5 f7_75 #[.val (.ref a), .val (.int (1 : Int32)), .val (.double px), .second, .val (.double (Jvm.Native.java_lang_Math.nans.pick64 true FP.dconst0 (FP.dmul u0 (FP.dadd px v0)))), .second, .val (.int (0 : Int32)), .val (.int (0 : Int32)), .val (.int (2 : Int32)), .val (.int (1 : Int32))] rfl ?_
  refine wiloadN C X5 f7_77 rfl ?_
  refine wiload C X5 f7_78 rfl ?_
  refine wicmp_gt C X5 f7_80 (fun q => absurd q (by decide : ¬ ((1 : Int32) < (1 : Int32)))) ?_
  intro _
  refine wiload C X5 f7_83 rfl ?_
  refine wiconst C X5 f7_85 (1 : Int32) rfl ?_
  refine wiadd C X5 f7_86 ?_
  refine own_foldI (z := (1 : Int32)) (by decide) ?_
  refine wistore C X5 f7_87 #[.val (.ref a), .val (.int (1 : Int32)), .val (.double px), .second, .val (.double (Jvm.Native.java_lang_Math.nans.pick64 true FP.dconst0 (FP.dmul u0 (FP.dadd px v0)))), .second, .val (.int (1 : Int32)), .val (.int (0 : Int32)), .val (.int (2 : Int32)), .val (.int (1 : Int32))] rfl ?_
  refine wiload C X5 f7_89 rfl ?_
  refine wistore C X5 f7_91 #[.val (.ref a), .val (.int (1 : Int32)), .val (.double px), .second, .val (.double (Jvm.Native.java_lang_Math.nans.pick64 true FP.dconst0 (FP.dmul u0 (FP.dadd px v0)))), .second, .val (.int (1 : Int32)), .val (.int (0 : Int32)), .val (.int (1 : Int32)), .val (.int (1 : Int32))] rfl ?_
  refine wgoto C X5 f7_93 ?_
  refine wgoto C X5 f7_116 ?_
  refine wdload C X5 f7_24 rfl ?_
  refine waloadN C X5 f7_26 rfl rfl ?_
  refine wget C X5 (host := "") (Or.inl (tw_22 hw)) Via.refl e5 Fld_2 f7_27 ?_
  intro T6 X6 e6
  refine wiconst C X6 f7_30 (2 : Int32) rfl ?_
  refine wiload C X6 f7_31 rfl ?_
  refine wimul C X6 f7_33 ?_
  refine own_foldI (z := (2 : Int32)) (by decide) ?_
  refine wdaload C X6 e6 Arv_4 f7_34 ⟨by decide, by decide⟩ (i := 2) rfl (v := u1) gu1 ?_
  refine wdloadN C X6 f7_35 rfl ?_
  refine waloadN C X6 f7_36 rfl rfl ?_
  refine wget C X6 (host := "") (Or.inl (tw_22 hw)) Via.refl e6 Fld_2 f7_37 ?_
  intro T7 X7 e7
  refine wiconst C X7 f7_40 (2 : Int32) rfl ?_
  refine wiload C X7 f7_41 rfl ?_
  refine wimul C X7 f7_43 ?_
  refine own_foldI (z := (2 : Int32)) (by decide) ?_
  refine wiconst C X7 f7_44 (1 : Int32) rfl ?_
  refine wiadd C X7 f7_45 ?_
  refine own_foldI (z := (3 : Int32)) (by decide) ?_
  refine wdaload C X7 e7 Arv_4 f7_46 ⟨by decide, by decide⟩ (i := 3) rfl (v := v1) gv1 ?_
  refine wdadd C X7 f7_47 (v := (FP.dadd px v1)) rfl (own_H_nn (own_pd hx hl1)) ?_
  refine wdmul C X7 f7_48 (v := (FP.dmul u1 (FP.dadd px v1))) rfl (own_H_nn (own_lv hx hl1)) ?_
  refine wmaxD C X7 (tw_42 hw) (tw_43 hw) (tw_2 hw) (tw_44 hw) e7 f7_49 (own_H_nn (own_H_max own_H_0 (own_lv hx hl0))) (own_H_nn (own_lv hx hl1)) rfl (W := 0) (Nat.le_of_eq rfl) (by decide) (by decide) (by decide) (by decide) ?_
  intro T8 X8 e8
  refine wdstore C X8 f7_52 #[.val (.ref a), .val (.int (1 : Int32)), .val (.double px), .second, .val (.double (Jvm.Native.java_lang_Math.nans.pick64 true (Jvm.Native.java_lang_Math.nans.pick64 true FP.dconst0 (FP.dmul u0 (FP.dadd px v0))) (FP.dmul u1 (FP.dadd px v1)))), .second, .val (.int (1 : Int32)), .val (.int (0 : Int32)), .val (.int (1 : Int32)), .val (.int (1 : Int32))] rfl ?_
  refine wiload C X8 f7_54 rfl ?_
  refine wiload C X8 f7_56 rfl ?_
  refine wicmp_ne C X8 f7_58 (fun q => absurd q (by decide : ¬ ((0 : Int32) = (1 : Int32)))) ?_
  intro _
  refine wiload C X8 f7_68 rfl ?_
  refine wiload C X8 f7_70 rfl ?_
  refine wiadd C X8 f7_72 ?_
  refine own_foldI (z := (1 : Int32)) (by decide) ?_
  refine wiconst C X8 f7_73 (1 : Int32) rfl ?_
  refine wiushr C X8 f7_74 ?_
  refine own_foldI (z := (0 : Int32)) (by decide) ?_
  refine wistore C X8 f7_75 #[.val (.ref a), .val (.int (1 : Int32)), .val (.double px), .second, .val (.double (Jvm.Native.java_lang_Math.nans.pick64 true (Jvm.Native.java_lang_Math.nans.pick64 true FP.dconst0 (FP.dmul u0 (FP.dadd px v0))) (FP.dmul u1 (FP.dadd px v1)))), .second, .val (.int (1 : Int32)), .val (.int (0 : Int32)), .val (.int (1 : Int32)), .val (.int (0 : Int32))] rfl ?_
  refine wiloadN C X8 f7_77 rfl ?_
  refine wiload C X8 f7_78 rfl ?_
  refine wicmp_gt C X8 f7_80 ?_ (fun q => absurd (by decide : ((0 : Int32) < (1 : Int32))) q)
  intro _
  refine wiload C X8 f7_96 rfl ?_
  refine wiconst C X8 f7_98 (2 : Int32) rfl ?_
  refine wiload C X8 f7_99 rfl ?_
  refine wiload C X8 f7_101 rfl ?_
  refine wisub C X8 f7_103 ?_
  refine own_foldI (z := (0 : Int32)) (by decide) ?_
  refine wiconst C X8 f7_104 (1 : Int32) rfl ?_
  refine wiadd C X8 f7_105 ?_
  refine own_foldI (z := (1 : Int32)) (by decide) ?_
  refine wimul C X8 f7_106 ?_
  refine own_foldI (z := (2 : Int32)) (by decide) ?_
  refine wiadd C X8 f7_107 ?_
  refine own_foldI (z := (3 : Int32)) (by decide) ?_
  refine wistore C X8 f7_108 #[.val (.ref a), .val (.int (1 : Int32)), .val (.double px), .second, .val (.double (Jvm.Native.java_lang_Math.nans.pick64 true (Jvm.Native.java_lang_Math.nans.pick64 true FP.dconst0 (FP.dmul u0 (FP.dadd px v0))) (FP.dmul u1 (FP.dadd px v1)))), .second, .val (.int (3 : Int32)), .val (.int (0 : Int32)), .val (.int (1 : Int32)), .val (.int (0 : Int32))] rfl ?_
  refine wiload C X8 f7_110 rfl ?_
  refine wiconst C X8 f7_112 (1 : Int32) rfl ?_
  refine wiadd C X8 f7_113 ?_
  refine own_foldI (z := (1 : Int32)) (by decide) ?_
  refine wistore C X8 f7_114 #[.val (.ref a), .val (.int (1 : Int32)), .val (.double px), .second, .val (.double (Jvm.Native.java_lang_Math.nans.pick64 true (Jvm.Native.java_lang_Math.nans.pick64 true FP.dconst0 (FP.dmul u0 (FP.dadd px v0))) (FP.dmul u1 (FP.dadd px v1)))), .second, .val (.int (3 : Int32)), .val (.int (1 : Int32)), .val (.int (1 : Int32)), .val (.int (0 : Int32))] rfl ?_
  refine wgoto C X8 f7_116 ?_
  refine wdload C X8 f7_24 rfl ?_
  refine waloadN C X8 f7_26 rfl rfl ?_
  refine wget C X8 (host := "") (Or.inl (tw_22 hw)) Via.refl e8 Fld_2 f7_27 ?_
  intro T9 X9 e9
  refine wiconst C X9 f7_30 (2 : Int32) rfl ?_
  refine wiload C X9 f7_31 rfl ?_
  refine wimul C X9 f7_33 ?_
  refine own_foldI (z := (6 : Int32)) (by decide) ?_
  refine wdaload C X9 e9 Arv_4 f7_34 ⟨by decide, by decide⟩ (i := 6) rfl (v := u3) gu3 ?_
  refine wdloadN C X9 f7_35 rfl ?_
  refine waloadN C X9 f7_36 rfl rfl ?_
  refine wget C X9 (host := "") (Or.inl (tw_22 hw)) Via.refl e9 Fld_2 f7_37 ?_
  intro T10 X10 e10
  refine wiconst C X10 f7_40 (2 : Int32) rfl ?_
  refine wiload C X10 f7_41 rfl ?_
  refine wimul C X10 f7_43 ?_
  refine own_foldI (z := (6 : Int32)) (by decide) ?_
  refine wiconst C X10 f7_44 (1 : Int32) rfl ?_
  refine wiadd C X10 f7_45 ?_
  refine own_foldI (z := (7 : Int32)) (by decide) ?_
  refine wdaload C X10 e10 Arv_4 f7_46 ⟨by decide, by decide⟩ (i := 7) rfl (v := v3) gv3 ?_
  refine wdadd C X10 f7_47 (v := (FP.dadd px v3)) rfl (own_H_nn (own_pd hx hl3)) ?_
  refine wdmul C X10 f7_48 (v := (FP.dmul u3 (FP.dadd px v3))) rfl (own_H_nn (own_lv hx hl3)) ?_
  refine wmaxD C X10 (tw_42 hw) (tw_43 hw) (tw_2 hw) (tw_44 hw) e10 f7_49 (own_H_nn (own_H_max (own_H_max own_H_0 (own_lv hx hl0)) (own_lv hx hl1))) (own_H_nn (own_lv hx hl3)) rfl (W := 0) (Nat.le_of_eq rfl) (by decide) (by decide) (by decide) (by decide) ?_
  intro T11 X11 e11
  refine wdstore C X11 f7_52 #[.val (.ref a), .val (.int (1 : Int32)), .val (.double px), .second, .val (.double (Jvm.Native.java_lang_Math.nans.pick64 true (Jvm.Native.java_lang_Math.nans.pick64 true (Jvm.Native.java_lang_Math.nans.pick64 true FP.dconst0 (FP.dmul u0 (FP.dadd px v0))) (FP.dmul u1 (FP.dadd px v1))) (FP.dmul u3 (FP.dadd px v3)))), .second, .val (.int (3 : Int32)), .val (.int (1 : Int32)), .val (.int (1 : Int32)), .val (.int (0 : Int32))] rfl ?_
  refine wiload C X11 f7_54 rfl ?_
  refine wiload C X11 f7_56 rfl ?_
  refine wicmp_ne C X11 f7_58 ?_ (fun q => absurd (by decide : ((1 : Int32) = (1 : Int32))) q)
  intro _
  refine wldc2D C X11 (tw_31 hw) f7_61 ?_
  refine wdload C X11 f7_64 rfl ?_
  refine wdmul C X11 f7_66 (v := (FP.dmul (4611686018427387904 : UInt64) (Jvm.Native.java_lang_Math.nans.pick64 true (Jvm.Native.java_lang_Math.nans.pick64 true (Jvm.Native.java_lang_Math.nans.pick64 true FP.dconst0 (FP.dmul u0 (FP.dadd px v0))) (FP.dmul u1 (FP.dadd px v1))) (FP.dmul u3 (FP.dadd px v3))))) rfl (own_nn (own_H_dbl (own_H_max (own_H_max (own_H_max own_H_0 (own_lv hx hl0)) (own_lv hx hl1)) (own_lv hx hl3)) (by have z0 := own_lvb hx hl0; have z1 := own_lvb hx hl1; have z3 := own_lvb hx hl3; omega))) ?_
  refine wdret C X11 f7_67 rfl (by decide) (by decide) ?_
  rw [e11]
  exact ⟨(FP.dmul (4611686018427387904 : UInt64) (Jvm.Native.java_lang_Math.nans.pick64 true (Jvm.Native.java_lang_Math.nans.pick64 true (Jvm.Native.java_lang_Math.nans.pick64 true FP.dconst0 (FP.dmul u0 (FP.dadd px v0))) (FP.dmul u1 (FP.dadd px v1))) (FP.dmul u3 (FP.dadd px v3)))), rfl, N0, rfl, (by have z0 := own_lvb hx hl0; have z1 := own_lvb hx hl1; have z3 := own_lvb hx hl3; simp only [own_pm]; exact own_di (own_H_dbl (own_H_max (own_H_max (own_H_max own_H_0 (own_lv hx hl0)) (own_lv hx hl1)) (own_lv hx hl3)) (by omega)) (by simp; omega))⟩
theorem ef_7_3_2 (m : MethodId) (a : Addr) (ix : Int32) : entryFrame m #[(.ref a), (.int ix)] 10 = mkF m 0 #[.val (.ref a), .val (.int ix), .unset, .unset, .unset, .unset, .unset, .unset, .unset, .unset] [] := by first | (simp [entryFrame, mkF, argsToLocals, Value.category]; done) | rfl
def Q7_3_2 (Z : State) (a : Addr) (ix : Int32) (ph : Addr) (pl : Addr) (k1 : ClassId) (k2 : ClassId) (hp : List Value) (ls : List Value) (P : Nat → Int) (W : Nat → Int) (D : Nat → Int) (h0 : Heap) (n0 : Nat) (v9 : Option Value) (h9 : Heap) (L9 : List Loc) : Prop := ∃ (rv : UInt64), v9 = some (.double rv) ∧ Fr n0 L9 ∧ h9 = h0 ∧ (FP.Core.DInt (own_pm 3 0 0 (3 - 1) W D (P 2) 2) rv)
set_option maxRecDepth 65536 in
set_option maxHeartbeats 40000000 in
theorem rm7_3_2 (l : Launch) (Z : State) (a0 : Array Value) (hw : ∀ d ∈ tables_1, d.before a0 Z = true) (ws : List Jvm.Cond) (a : Addr) (ix : Int32) (ph : Addr) (pl : Addr) (k1 : ClassId) (k2 : ClassId) (hp : List Value) (ls : List Value) (P : Nat → Int) (W : Nat → Int) (D : Nat → Int) (h0 : Heap) (n0 : Nat) (Z0 : n0 ≤ h0.size) (Fld_0 : Fld Z h0 a "com/example/arbor_center/arborcenter/objective/UpperEnvelope" "halfPoints" "[D" (.ref ph)) (Fld_1 : Fld Z h0 a "com/example/arbor_center/arborcenter/objective/UpperEnvelope" "count" "I" (.int (3 : Int32))) (Fld_2 : Fld Z h0 a "com/example/arbor_center/arborcenter/objective/UpperEnvelope" "lines" "[D" (.ref pl)) (Arv_3 : Arv Z h0 ph k1 .double (4 : Int32) hp (.double (0 : UInt64))) (Arv_4 : Arv Z h0 pl k2 .double (14 : Int32) ls (.double (0 : UInt64))) (hix : (ix = (2 : Int32))) (hL : (own_Ls ls W D)) (hP : (own_Ps hp P 3)) :
    MetFree l (⟨"com/example/arbor_center/arborcenter/objective/UpperEnvelope", "at", "(I)D"⟩ : MethodName) (head1 (Jvm.Cond.code (⟨"com/example/arbor_center/arborcenter/objective/UpperEnvelope", "at", "(I)D"⟩ : MethodName) prog_12_method_4_code 10 (some .double) :: ws) ({ frames := 1, cells := 0, slots := 0, locals := 15 } : Room)) (fun A9 U9 => A9 = #[(.ref a), (.int ix)] ∧ Z.Warmed39 U9.vm ∧ U9.heap = h0) (fun _ _ _ _ _ => True) (fun _ U9 o9 V9 => ∃ v9 L9, o9 = .returned v9 ∧ (Q7_3_2 Z a ix ph pl k1 k2 hp ls P W D h0 n0) v9 V9.heap L9 ∧ FrameEnd U9 o9 V9 L9 ({ frames := 1, cells := 0, slots := 0, locals := 15 } : Room).cells ({ frames := 1, cells := 0, slots := 0, locals := 15 } : Room).slots) := by
  refine met_of (Q := (Q7_3_2 Z a ix ph pl k1 k2 hp ls P W D h0 n0)) pn_7 ?_
  intro p e s m below meth c T0 C X0 e0
  have N0 := Fr.nil n0
  refine Go.cast (ef_7_3_2 m a ix) ?_
  subst hix
  obtain ⟨px, gx, hx⟩ := hP.2 2 (by decide)
  obtain ⟨u0, v0, gu0, gv0, hl0⟩ := hL.2 0 (by decide)
  obtain ⟨u4, v4, gu4, gv4, hl4⟩ := hL.2 4 (by decide)
  refine waloadN C X0 f7_0 rfl rfl ?_
  refine wget C X0 (host := "") (Or.inl (tw_20 hw)) Via.refl e0 Fld_0 f7_1 ?_
  intro T1 X1 e1
  refine wiloadN C X1 f7_4 rfl ?_
  refine wdaload C X1 e1 Arv_3 f7_5 ⟨by decide, by decide⟩ (i := 2) rfl (v := px) gx ?_
  refine wdstoreN C X1 f7_6 #[.val (.ref a), .val (.int (2 : Int32)), .val (.double px), .second, .unset, .unset, .unset, .unset, .unset, .unset] rfl ?_
  refine wdconst0 C X1 f7_7 ?_
  refine wdstore C X1 f7_8 #[.val (.ref a), .val (.int (2 : Int32)), .val (.double px), .second, .val (.double FP.dconst0), .second, .unset, .unset, .unset, .unset] rfl ?_
  refine wiconst C X1 f7_10 (0 : Int32) rfl ?_
  refine wistore C X1 f7_11 #[.val (.ref a), .val (.int (2 : Int32)), .val (.double px), .second, .val (.double FP.dconst0), .second, .val (.int (0 : Int32)), .unset, .unset, .unset] rfl ?_
  refine wiconst C X1 f7_13 (0 : Int32) rfl ?_
  refine wistore C X1 f7_14 #[.val (.ref a), .val (.int (2 : Int32)), .val (.double px), .second, .val (.double FP.dconst0), .second, .val (.int (0 : Int32)), .val (.int (0 : Int32)), .unset, .unset] rfl ?_
  refine waloadN C X1 f7_16 rfl rfl ?_
  refine wget C X1 (host := "") (Or.inl (tw_29 hw)) Via.refl e1 Fld_1 f7_17 ?_
  intro T2 X2 e2
  refine wiconst C X2 f7_20 (1 : Int32) rfl ?_
  refine wisub C X2 f7_21 ?_
  refine own_foldI (z := (2 : Int32)) (by decide) ?_
  refine wistore C X2 f7_22 #[.val (.ref a), .val (.int (2 : Int32)), .val (.double px), .second, .val (.double FP.dconst0), .second, .val (.int (0 : Int32)), .val (.int (0 : Int32)), .val (.int (2 : Int32)), .unset] rfl ?_
  refine wdload C X2 f7_24 rfl ?_
  refine waloadN C X2 f7_26 rfl rfl ?_
  refine wget C X2 (host := "") (Or.inl (tw_22 hw)) Via.refl e2 Fld_2 f7_27 ?_
  intro T3 X3 e3
  refine wiconst C X3 f7_30 (2 : Int32) rfl ?_
  refine wiload C X3 f7_31 rfl ?_
  refine wimul C X3 f7_33 ?_
  refine own_foldI (z := (0 : Int32)) (by decide) ?_
  refine wdaload C X3 e3 Arv_4 f7_34 ⟨by decide, by decide⟩ (i := 0) rfl (v := u0) gu0 ?_
  refine wdloadN C X3 f7_35 rfl ?_
  refine waloadN C X3 f7_36 rfl rfl ?_
  refine wget C X3 (host := "") (Or.inl (tw_22 hw)) Via.refl e3 Fld_2 f7_37 ?_
  intro T4 X4 e4
  refine wiconst C X4 f7_40 (2 : Int32) rfl ?_
  refine wiload C X4 f7_41 rfl ?_
  refine wimul C X4 f7_43 ?_
  refine own_foldI (z := (0 : Int32)) (by decide) ?_
  refine wiconst C X4 f7_44 (1 : Int32) rfl ?_
  refine wiadd C X4 f7_45 ?_
  refine own_foldI (z := (1 : Int32)) (by decide) ?_
  refine wdaload C X4 e4 Arv_4 f7_46 ⟨by decide, by decide⟩ (i := 1) rfl (v := v0) gv0 ?_
  refine wdadd C X4 f7_47 (v := (FP.dadd px v0)) rfl (own_H_nn (own_pd hx hl0)) ?_
  refine wdmul C X4 f7_48 (v := (FP.dmul u0 (FP.dadd px v0))) rfl (own_H_nn (own_lv hx hl0)) ?_
  refine wmaxD C X4 (tw_42 hw) (tw_43 hw) (tw_2 hw) (tw_44 hw) e4 f7_49 (own_H_nn own_H_0) (own_H_nn (own_lv hx hl0)) rfl (W := 0) (Nat.le_of_eq rfl) (by decide) (by decide) (by decide) (by decide) ?_
  intro T5 X5 e5
  refine wdstore C X5 f7_52 #[.val (.ref a), .val (.int (2 : Int32)), .val (.double px), .second, .val (.double (Jvm.Native.java_lang_Math.nans.pick64 true FP.dconst0 (FP.dmul u0 (FP.dadd px v0)))), .second, .val (.int (0 : Int32)), .val (.int (0 : Int32)), .val (.int (2 : Int32)), .unset] rfl ?_
  refine wiload C X5 f7_54 rfl ?_
  refine wiload C X5 f7_56 rfl ?_
  refine wicmp_ne C X5 f7_58 (fun q => absurd q (by decide : ¬ ((0 : Int32) = (2 : Int32)))) ?_
  intro _
  refine wiload C X5 f7_68 rfl ?_
  refine wiload C X5 f7_70 rfl ?_
  refine wiadd C X5 f7_72 ?_
  refine own_foldI (z := (2 : Int32)) (by decide) ?_
  refine wiconst C X5 f7_73 (1 : Int32) rfl ?_
  refine wiushr C X5 f7_74 ?_
  refine own_foldI (z := (1 : Int32)) (by decide) ?_
  refine wistore C X5 f7_75 #[.val (.ref a), .val (.int (2 : Int32)), .val (.double px), .second, .val (.double (Jvm.Native.java_lang_Math.nans.pick64 true FP.dconst0 (FP.dmul u0 (FP.dadd px v0)))), .second, .val (.int (0 : Int32)), .val (.int (0 : Int32)), .val (.int (2 : Int32)), .val (.int (1 : Int32))] rfl ?_
  refine wiloadN C X5 f7_77 rfl ?_
  refine wiload C X5 f7_78 rfl ?_
  refine wicmp_gt C X5 f7_80 ?_ (fun q => absurd (by decide : ((1 : Int32) < (2 : Int32))) q)
  intro _
  refine wiload C X5 f7_96 rfl ?_
  refine wiconst C X5 f7_98 (2 : Int32) rfl ?_
  refine wiload C X5 f7_99 rfl ?_
  refine wiload C X5 f7_101 rfl ?_
  refine wisub C X5 f7_103 ?_
  refine own_foldI (z := (1 : Int32)) (by decide) ?_
  refine wiconst C X5 f7_104 (1 : Int32) rfl ?_
  refine wiadd C X5 f7_105 ?_
  refine own_foldI (z := (2 : Int32)) (by decide) ?_
  refine wimul C X5 f7_106 ?_
  refine own_foldI (z := (4 : Int32)) (by decide) ?_
  refine wiadd C X5 f7_107 ?_
  refine own_foldI (z := (4 : Int32)) (by decide) ?_
  refine wistore C X5 f7_108 #[.val (.ref a), .val (.int (2 : Int32)), .val (.double px), .second, .val (.double (Jvm.Native.java_lang_Math.nans.pick64 true FP.dconst0 (FP.dmul u0 (FP.dadd px v0)))), .second, .val (.int (4 : Int32)), .val (.int (0 : Int32)), .val (.int (2 : Int32)), .val (.int (1 : Int32))] rfl ?_
  refine wiload C X5 f7_110 rfl ?_
  refine wiconst C X5 f7_112 (1 : Int32) rfl ?_
  refine wiadd C X5 f7_113 ?_
  refine own_foldI (z := (2 : Int32)) (by decide) ?_
  refine wistore C X5 f7_114 #[.val (.ref a), .val (.int (2 : Int32)), .val (.double px), .second, .val (.double (Jvm.Native.java_lang_Math.nans.pick64 true FP.dconst0 (FP.dmul u0 (FP.dadd px v0)))), .second, .val (.int (4 : Int32)), .val (.int (2 : Int32)), .val (.int (2 : Int32)), .val (.int (1 : Int32))] rfl ?_
  refine wgoto C X5 f7_116 ?_
  refine wdload C X5 f7_24 rfl ?_
  refine waloadN C X5 f7_26 rfl rfl ?_
  refine wget C X5 (host := "") (Or.inl (tw_22 hw)) Via.refl e5 Fld_2 f7_27 ?_
  intro T6 X6 e6
  refine wiconst C X6 f7_30 (2 : Int32) rfl ?_
  refine wiload C X6 f7_31 rfl ?_
  refine wimul C X6 f7_33 ?_
  refine own_foldI (z := (8 : Int32)) (by decide) ?_
  refine wdaload C X6 e6 Arv_4 f7_34 ⟨by decide, by decide⟩ (i := 8) rfl (v := u4) gu4 ?_
  refine wdloadN C X6 f7_35 rfl ?_
  refine waloadN C X6 f7_36 rfl rfl ?_
  refine wget C X6 (host := "") (Or.inl (tw_22 hw)) Via.refl e6 Fld_2 f7_37 ?_
  intro T7 X7 e7
  refine wiconst C X7 f7_40 (2 : Int32) rfl ?_
  refine wiload C X7 f7_41 rfl ?_
  refine wimul C X7 f7_43 ?_
  refine own_foldI (z := (8 : Int32)) (by decide) ?_
  refine wiconst C X7 f7_44 (1 : Int32) rfl ?_
  refine wiadd C X7 f7_45 ?_
  refine own_foldI (z := (9 : Int32)) (by decide) ?_
  refine wdaload C X7 e7 Arv_4 f7_46 ⟨by decide, by decide⟩ (i := 9) rfl (v := v4) gv4 ?_
  refine wdadd C X7 f7_47 (v := (FP.dadd px v4)) rfl (own_H_nn (own_pd hx hl4)) ?_
  refine wdmul C X7 f7_48 (v := (FP.dmul u4 (FP.dadd px v4))) rfl (own_H_nn (own_lv hx hl4)) ?_
  refine wmaxD C X7 (tw_42 hw) (tw_43 hw) (tw_2 hw) (tw_44 hw) e7 f7_49 (own_H_nn (own_H_max own_H_0 (own_lv hx hl0))) (own_H_nn (own_lv hx hl4)) rfl (W := 0) (Nat.le_of_eq rfl) (by decide) (by decide) (by decide) (by decide) ?_
  intro T8 X8 e8
  refine wdstore C X8 f7_52 #[.val (.ref a), .val (.int (2 : Int32)), .val (.double px), .second, .val (.double (Jvm.Native.java_lang_Math.nans.pick64 true (Jvm.Native.java_lang_Math.nans.pick64 true FP.dconst0 (FP.dmul u0 (FP.dadd px v0))) (FP.dmul u4 (FP.dadd px v4)))), .second, .val (.int (4 : Int32)), .val (.int (2 : Int32)), .val (.int (2 : Int32)), .val (.int (1 : Int32))] rfl ?_
  refine wiload C X8 f7_54 rfl ?_
  refine wiload C X8 f7_56 rfl ?_
  refine wicmp_ne C X8 f7_58 ?_ (fun q => absurd (by decide : ((2 : Int32) = (2 : Int32))) q)
  intro _
  refine wldc2D C X8 (tw_31 hw) f7_61 ?_
  refine wdload C X8 f7_64 rfl ?_
  refine wdmul C X8 f7_66 (v := (FP.dmul (4611686018427387904 : UInt64) (Jvm.Native.java_lang_Math.nans.pick64 true (Jvm.Native.java_lang_Math.nans.pick64 true FP.dconst0 (FP.dmul u0 (FP.dadd px v0))) (FP.dmul u4 (FP.dadd px v4))))) rfl (own_nn (own_H_dbl (own_H_max (own_H_max own_H_0 (own_lv hx hl0)) (own_lv hx hl4)) (by have z0 := own_lvb hx hl0; have z4 := own_lvb hx hl4; omega))) ?_
  refine wdret C X8 f7_67 rfl (by decide) (by decide) ?_
  rw [e8]
  exact ⟨(FP.dmul (4611686018427387904 : UInt64) (Jvm.Native.java_lang_Math.nans.pick64 true (Jvm.Native.java_lang_Math.nans.pick64 true FP.dconst0 (FP.dmul u0 (FP.dadd px v0))) (FP.dmul u4 (FP.dadd px v4)))), rfl, N0, rfl, (by have z0 := own_lvb hx hl0; have z4 := own_lvb hx hl4; simp only [own_pm]; exact own_di (own_H_dbl (own_H_max (own_H_max own_H_0 (own_lv hx hl0)) (own_lv hx hl4)) (by omega)) (by simp; omega))⟩
theorem ef_7_4_0 (m : MethodId) (a : Addr) (ix : Int32) : entryFrame m #[(.ref a), (.int ix)] 10 = mkF m 0 #[.val (.ref a), .val (.int ix), .unset, .unset, .unset, .unset, .unset, .unset, .unset, .unset] [] := by first | (simp [entryFrame, mkF, argsToLocals, Value.category]; done) | rfl
def Q7_4_0 (Z : State) (a : Addr) (ix : Int32) (ph : Addr) (pl : Addr) (k1 : ClassId) (k2 : ClassId) (hp : List Value) (ls : List Value) (P : Nat → Int) (W : Nat → Int) (D : Nat → Int) (h0 : Heap) (n0 : Nat) (v9 : Option Value) (h9 : Heap) (L9 : List Loc) : Prop := ∃ (rv : UInt64), v9 = some (.double rv) ∧ Fr n0 L9 ∧ h9 = h0 ∧ (FP.Core.DInt (own_pm 3 0 0 (4 - 1) W D (P 0) 0) rv)
set_option maxRecDepth 65536 in
set_option maxHeartbeats 40000000 in
theorem rm7_4_0 (l : Launch) (Z : State) (a0 : Array Value) (hw : ∀ d ∈ tables_1, d.before a0 Z = true) (ws : List Jvm.Cond) (a : Addr) (ix : Int32) (ph : Addr) (pl : Addr) (k1 : ClassId) (k2 : ClassId) (hp : List Value) (ls : List Value) (P : Nat → Int) (W : Nat → Int) (D : Nat → Int) (h0 : Heap) (n0 : Nat) (Z0 : n0 ≤ h0.size) (Fld_0 : Fld Z h0 a "com/example/arbor_center/arborcenter/objective/UpperEnvelope" "halfPoints" "[D" (.ref ph)) (Fld_1 : Fld Z h0 a "com/example/arbor_center/arborcenter/objective/UpperEnvelope" "count" "I" (.int (4 : Int32))) (Fld_2 : Fld Z h0 a "com/example/arbor_center/arborcenter/objective/UpperEnvelope" "lines" "[D" (.ref pl)) (Arv_3 : Arv Z h0 ph k1 .double (4 : Int32) hp (.double (0 : UInt64))) (Arv_4 : Arv Z h0 pl k2 .double (14 : Int32) ls (.double (0 : UInt64))) (hix : (ix = (0 : Int32))) (hL : (own_Ls ls W D)) (hP : (own_Ps hp P 4)) :
    MetFree l (⟨"com/example/arbor_center/arborcenter/objective/UpperEnvelope", "at", "(I)D"⟩ : MethodName) (head1 (Jvm.Cond.code (⟨"com/example/arbor_center/arborcenter/objective/UpperEnvelope", "at", "(I)D"⟩ : MethodName) prog_12_method_4_code 10 (some .double) :: ws) ({ frames := 1, cells := 0, slots := 0, locals := 15 } : Room)) (fun A9 U9 => A9 = #[(.ref a), (.int ix)] ∧ Z.Warmed39 U9.vm ∧ U9.heap = h0) (fun _ _ _ _ _ => True) (fun _ U9 o9 V9 => ∃ v9 L9, o9 = .returned v9 ∧ (Q7_4_0 Z a ix ph pl k1 k2 hp ls P W D h0 n0) v9 V9.heap L9 ∧ FrameEnd U9 o9 V9 L9 ({ frames := 1, cells := 0, slots := 0, locals := 15 } : Room).cells ({ frames := 1, cells := 0, slots := 0, locals := 15 } : Room).slots) := by
  refine met_of (Q := (Q7_4_0 Z a ix ph pl k1 k2 hp ls P W D h0 n0)) pn_7 ?_
  intro p e s m below meth c T0 C X0 e0
  have N0 := Fr.nil n0
  refine Go.cast (ef_7_4_0 m a ix) ?_
  subst hix
  obtain ⟨px, gx, hx⟩ := hP.2 0 (by decide)
  obtain ⟨u0, v0, gu0, gv0, hl0⟩ := hL.2 0 (by decide)
  obtain ⟨u1, v1, gu1, gv1, hl1⟩ := hL.2 1 (by decide)
  obtain ⟨u2, v2, gu2, gv2, hl2⟩ := hL.2 2 (by decide)
  refine waloadN C X0 f7_0 rfl rfl ?_
  refine wget C X0 (host := "") (Or.inl (tw_20 hw)) Via.refl e0 Fld_0 f7_1 ?_
  intro T1 X1 e1
  refine wiloadN C X1 f7_4 rfl ?_
  refine wdaload C X1 e1 Arv_3 f7_5 ⟨by decide, by decide⟩ (i := 0) rfl (v := px) gx ?_
  refine wdstoreN C X1 f7_6 #[.val (.ref a), .val (.int (0 : Int32)), .val (.double px), .second, .unset, .unset, .unset, .unset, .unset, .unset] rfl ?_
  refine wdconst0 C X1 f7_7 ?_
  refine wdstore C X1 f7_8 #[.val (.ref a), .val (.int (0 : Int32)), .val (.double px), .second, .val (.double FP.dconst0), .second, .unset, .unset, .unset, .unset] rfl ?_
  refine wiconst C X1 f7_10 (0 : Int32) rfl ?_
  refine wistore C X1 f7_11 #[.val (.ref a), .val (.int (0 : Int32)), .val (.double px), .second, .val (.double FP.dconst0), .second, .val (.int (0 : Int32)), .unset, .unset, .unset] rfl ?_
  refine wiconst C X1 f7_13 (0 : Int32) rfl ?_
  refine wistore C X1 f7_14 #[.val (.ref a), .val (.int (0 : Int32)), .val (.double px), .second, .val (.double FP.dconst0), .second, .val (.int (0 : Int32)), .val (.int (0 : Int32)), .unset, .unset] rfl ?_
  refine waloadN C X1 f7_16 rfl rfl ?_
  refine wget C X1 (host := "") (Or.inl (tw_29 hw)) Via.refl e1 Fld_1 f7_17 ?_
  intro T2 X2 e2
  refine wiconst C X2 f7_20 (1 : Int32) rfl ?_
  refine wisub C X2 f7_21 ?_
  refine own_foldI (z := (3 : Int32)) (by decide) ?_
  refine wistore C X2 f7_22 #[.val (.ref a), .val (.int (0 : Int32)), .val (.double px), .second, .val (.double FP.dconst0), .second, .val (.int (0 : Int32)), .val (.int (0 : Int32)), .val (.int (3 : Int32)), .unset] rfl ?_
  refine wdload C X2 f7_24 rfl ?_
  refine waloadN C X2 f7_26 rfl rfl ?_
  refine wget C X2 (host := "") (Or.inl (tw_22 hw)) Via.refl e2 Fld_2 f7_27 ?_
  intro T3 X3 e3
  refine wiconst C X3 f7_30 (2 : Int32) rfl ?_
  refine wiload C X3 f7_31 rfl ?_
  refine wimul C X3 f7_33 ?_
  refine own_foldI (z := (0 : Int32)) (by decide) ?_
  refine wdaload C X3 e3 Arv_4 f7_34 ⟨by decide, by decide⟩ (i := 0) rfl (v := u0) gu0 ?_
  refine wdloadN C X3 f7_35 rfl ?_
  refine waloadN C X3 f7_36 rfl rfl ?_
  refine wget C X3 (host := "") (Or.inl (tw_22 hw)) Via.refl e3 Fld_2 f7_37 ?_
  intro T4 X4 e4
  refine wiconst C X4 f7_40 (2 : Int32) rfl ?_
  refine wiload C X4 f7_41 rfl ?_
  refine wimul C X4 f7_43 ?_
  refine own_foldI (z := (0 : Int32)) (by decide) ?_
  refine wiconst C X4 f7_44 (1 : Int32) rfl ?_
  refine wiadd C X4 f7_45 ?_
  refine own_foldI (z := (1 : Int32)) (by decide) ?_
  refine wdaload C X4 e4 Arv_4 f7_46 ⟨by decide, by decide⟩ (i := 1) rfl (v := v0) gv0 ?_
  refine wdadd C X4 f7_47 (v := (FP.dadd px v0)) rfl (own_H_nn (own_pd hx hl0)) ?_
  refine wdmul C X4 f7_48 (v := (FP.dmul u0 (FP.dadd px v0))) rfl (own_H_nn (own_lv hx hl0)) ?_
  refine wmaxD C X4 (tw_42 hw) (tw_43 hw) (tw_2 hw) (tw_44 hw) e4 f7_49 (own_H_nn own_H_0) (own_H_nn (own_lv hx hl0)) rfl (W := 0) (Nat.le_of_eq rfl) (by decide) (by decide) (by decide) (by decide) ?_
  intro T5 X5 e5
  refine wdstore C X5 f7_52 #[.val (.ref a), .val (.int (0 : Int32)), .val (.double px), .second, .val (.double (Jvm.Native.java_lang_Math.nans.pick64 true FP.dconst0 (FP.dmul u0 (FP.dadd px v0)))), .second, .val (.int (0 : Int32)), .val (.int (0 : Int32)), .val (.int (3 : Int32)), .unset] rfl ?_
  refine wiload C X5 f7_54 rfl ?_
  refine wiload C X5 f7_56 rfl ?_
  refine wicmp_ne C X5 f7_58 (fun q => absurd q (by decide : ¬ ((0 : Int32) = (3 : Int32)))) ?_
  intro _
  refine wiload C X5 f7_68 rfl ?_
  refine wiload C X5 f7_70 rfl ?_
  refine wiadd C X5 f7_72 ?_
  refine own_foldI (z := (3 : Int32)) (by decide) ?_
  refine wiconst C X5 f7_73 (1 : Int32) rfl ?_
  refine wiushr C X5 f7_74 ?_
  refine own_foldI (z := (1 : Int32)) (by decide) ?_
  refine wistore C X5 f7_75 #[.val (.ref a), .val (.int (0 : Int32)), .val (.double px), .second, .val (.double (Jvm.Native.java_lang_Math.nans.pick64 true FP.dconst0 (FP.dmul u0 (FP.dadd px v0)))), .second, .val (.int (0 : Int32)), .val (.int (0 : Int32)), .val (.int (3 : Int32)), .val (.int (1 : Int32))] rfl ?_
  refine wiloadN C X5 f7_77 rfl ?_
  refine wiload C X5 f7_78 rfl ?_
  refine wicmp_gt C X5 f7_80 (fun q => absurd q (by decide : ¬ ((1 : Int32) < (0 : Int32)))) ?_
  intro _
  refine wiload C X5 f7_83 rfl ?_
  refine wiconst C X5 f7_85 (1 : Int32) rfl ?_
  refine wiadd C X5 f7_86 ?_
  refine own_foldI (z := (1 : Int32)) (by decide) ?_
  refine wistore C X5 f7_87 #[.val (.ref a), .val (.int (0 : Int32)), .val (.double px), .second, .val (.double (Jvm.Native.java_lang_Math.nans.pick64 true FP.dconst0 (FP.dmul u0 (FP.dadd px v0)))), .second, .val (.int (1 : Int32)), .val (.int (0 : Int32)), .val (.int (3 : Int32)), .val (.int (1 : Int32))] rfl ?_
  refine wiload C X5 f7_89 rfl ?_
  refine wistore C X5 f7_91 #[.val (.ref a), .val (.int (0 : Int32)), .val (.double px), .second, .val (.double (Jvm.Native.java_lang_Math.nans.pick64 true FP.dconst0 (FP.dmul u0 (FP.dadd px v0)))), .second, .val (.int (1 : Int32)), .val (.int (0 : Int32)), .val (.int (1 : Int32)), .val (.int (1 : Int32))] rfl ?_
  refine wgoto C X5 f7_93 ?_
  refine wgoto C X5 f7_116 ?_
  refine wdload C X5 f7_24 rfl ?_
  refine waloadN C X5 f7_26 rfl rfl ?_
  refine wget C X5 (host := "") (Or.inl (tw_22 hw)) Via.refl e5 Fld_2 f7_27 ?_
  intro T6 X6 e6
  refine wiconst C X6 f7_30 (2 : Int32) rfl ?_
  refine wiload C X6 f7_31 rfl ?_
  refine wimul C X6 f7_33 ?_
  refine own_foldI (z := (2 : Int32)) (by decide) ?_
  refine wdaload C X6 e6 Arv_4 f7_34 ⟨by decide, by decide⟩ (i := 2) rfl (v := u1) gu1 ?_
  refine wdloadN C X6 f7_35 rfl ?_
  refine waloadN C X6 f7_36 rfl rfl ?_
  refine wget C X6 (host := "") (Or.inl (tw_22 hw)) Via.refl e6 Fld_2 f7_37 ?_
  intro T7 X7 e7
  refine wiconst C X7 f7_40 (2 : Int32) rfl ?_
  refine wiload C X7 f7_41 rfl ?_
  refine wimul C X7 f7_43 ?_
  refine own_foldI (z := (2 : Int32)) (by decide) ?_
  refine wiconst C X7 f7_44 (1 : Int32) rfl ?_
  refine wiadd C X7 f7_45 ?_
  refine own_foldI (z := (3 : Int32)) (by decide) ?_
  refine wdaload C X7 e7 Arv_4 f7_46 ⟨by decide, by decide⟩ (i := 3) rfl (v := v1) gv1 ?_
  refine wdadd C X7 f7_47 (v := (FP.dadd px v1)) rfl (own_H_nn (own_pd hx hl1)) ?_
  refine wdmul C X7 f7_48 (v := (FP.dmul u1 (FP.dadd px v1))) rfl (own_H_nn (own_lv hx hl1)) ?_
  refine wmaxD C X7 (tw_42 hw) (tw_43 hw) (tw_2 hw) (tw_44 hw) e7 f7_49 (own_H_nn (own_H_max own_H_0 (own_lv hx hl0))) (own_H_nn (own_lv hx hl1)) rfl (W := 0) (Nat.le_of_eq rfl) (by decide) (by decide) (by decide) (by decide) ?_
  intro T8 X8 e8
  refine wdstore C X8 f7_52 #[.val (.ref a), .val (.int (0 : Int32)), .val (.double px), .second, .val (.double (Jvm.Native.java_lang_Math.nans.pick64 true (Jvm.Native.java_lang_Math.nans.pick64 true FP.dconst0 (FP.dmul u0 (FP.dadd px v0))) (FP.dmul u1 (FP.dadd px v1)))), .second, .val (.int (1 : Int32)), .val (.int (0 : Int32)), .val (.int (1 : Int32)), .val (.int (1 : Int32))] rfl ?_
  refine wiload C X8 f7_54 rfl ?_
  refine wiload C X8 f7_56 rfl ?_
  refine wicmp_ne C X8 f7_58 (fun q => absurd q (by decide : ¬ ((0 : Int32) = (1 : Int32)))) ?_
  intro _
  refine wiload C X8 f7_68 rfl ?_
  refine wiload C X8 f7_70 rfl ?_
  refine wiadd C X8 f7_72 ?_
  refine own_foldI (z := (1 : Int32)) (by decide) ?_
  refine wiconst C X8 f7_73 (1 : Int32) rfl ?_
  refine wiushr C X8 f7_74 ?_
  refine own_foldI (z := (0 : Int32)) (by decide) ?_
  refine wistore C X8 f7_75 #[.val (.ref a), .val (.int (0 : Int32)), .val (.double px), .second, .val (.double (Jvm.Native.java_lang_Math.nans.pick64 true (Jvm.Native.java_lang_Math.nans.pick64 true FP.dconst0 (FP.dmul u0 (FP.dadd px v0))) (FP.dmul u1 (FP.dadd px v1)))), .second, .val (.int (1 : Int32)), .val (.int (0 : Int32)), .val (.int (1 : Int32)), .val (.int (0 : Int32))] rfl ?_
  refine wiloadN C X8 f7_77 rfl ?_
  refine wiload C X8 f7_78 rfl ?_
  refine wicmp_gt C X8 f7_80 (fun q => absurd q (by decide : ¬ ((0 : Int32) < (0 : Int32)))) ?_
  intro _
  refine wiload C X8 f7_83 rfl ?_
  refine wiconst C X8 f7_85 (1 : Int32) rfl ?_
  refine wiadd C X8 f7_86 ?_
  refine own_foldI (z := (2 : Int32)) (by decide) ?_
  refine wistore C X8 f7_87 #[.val (.ref a), .val (.int (0 : Int32)), .val (.double px), .second, .val (.double (Jvm.Native.java_lang_Math.nans.pick64 true (Jvm.Native.java_lang_Math.nans.pick64 true FP.dconst0 (FP.dmul u0 (FP.dadd px v0))) (FP.dmul u1 (FP.dadd px v1)))), .second, .val (.int (2 : Int32)), .val (.int (0 : Int32)), .val (.int (1 : Int32)), .val (.int (0 : Int32))] rfl ?_
  refine wiload C X8 f7_89 rfl ?_
  refine wistore C X8 f7_91 #[.val (.ref a), .val (.int (0 : Int32)), .val (.double px), .second, .val (.double (Jvm.Native.java_lang_Math.nans.pick64 true (Jvm.Native.java_lang_Math.nans.pick64 true FP.dconst0 (FP.dmul u0 (FP.dadd px v0))) (FP.dmul u1 (FP.dadd px v1)))), .second, .val (.int (2 : Int32)), .val (.int (0 : Int32)), .val (.int (0 : Int32)), .val (.int (0 : Int32))] rfl ?_
  refine wgoto C X8 f7_93 ?_
  refine wgoto C X8 f7_116 ?_
  refine wdload C X8 f7_24 rfl ?_
  refine waloadN C X8 f7_26 rfl rfl ?_
  refine wget C X8 (host := "") (Or.inl (tw_22 hw)) Via.refl e8 Fld_2 f7_27 ?_
  intro T9 X9 e9
  refine wiconst C X9 f7_30 (2 : Int32) rfl ?_
  refine wiload C X9 f7_31 rfl ?_
  refine wimul C X9 f7_33 ?_
  refine own_foldI (z := (4 : Int32)) (by decide) ?_
  refine wdaload C X9 e9 Arv_4 f7_34 ⟨by decide, by decide⟩ (i := 4) rfl (v := u2) gu2 ?_
  refine wdloadN C X9 f7_35 rfl ?_
  refine waloadN C X9 f7_36 rfl rfl ?_
  refine wget C X9 (host := "") (Or.inl (tw_22 hw)) Via.refl e9 Fld_2 f7_37 ?_
  intro T10 X10 e10
  refine wiconst C X10 f7_40 (2 : Int32) rfl ?_
  refine wiload C X10 f7_41 rfl ?_
  refine wimul C X10 f7_43 ?_
  refine own_foldI (z := (4 : Int32)) (by decide) ?_
  refine wiconst C X10 f7_44 (1 : Int32) rfl ?_
  refine wiadd C X10 f7_45 ?_
  refine own_foldI (z := (5 : Int32)) (by decide) ?_
  refine wdaload C X10 e10 Arv_4 f7_46 ⟨by decide, by decide⟩ (i := 5) rfl (v := v2) gv2 ?_
  refine wdadd C X10 f7_47 (v := (FP.dadd px v2)) rfl (own_H_nn (own_pd hx hl2)) ?_
  refine wdmul C X10 f7_48 (v := (FP.dmul u2 (FP.dadd px v2))) rfl (own_H_nn (own_lv hx hl2)) ?_
  refine wmaxD C X10 (tw_42 hw) (tw_43 hw) (tw_2 hw) (tw_44 hw) e10 f7_49 (own_H_nn (own_H_max (own_H_max own_H_0 (own_lv hx hl0)) (own_lv hx hl1))) (own_H_nn (own_lv hx hl2)) rfl (W := 0) (Nat.le_of_eq rfl) (by decide) (by decide) (by decide) (by decide) ?_
  intro T11 X11 e11
  refine wdstore C X11 f7_52 #[.val (.ref a), .val (.int (0 : Int32)), .val (.double px), .second, .val (.double (Jvm.Native.java_lang_Math.nans.pick64 true (Jvm.Native.java_lang_Math.nans.pick64 true (Jvm.Native.java_lang_Math.nans.pick64 true FP.dconst0 (FP.dmul u0 (FP.dadd px v0))) (FP.dmul u1 (FP.dadd px v1))) (FP.dmul u2 (FP.dadd px v2)))), .second, .val (.int (2 : Int32)), .val (.int (0 : Int32)), .val (.int (0 : Int32)), .val (.int (0 : Int32))] rfl ?_
  refine wiload C X11 f7_54 rfl ?_
  refine wiload C X11 f7_56 rfl ?_
  refine wicmp_ne C X11 f7_58 ?_ (fun q => absurd (by decide : ((0 : Int32) = (0 : Int32))) q)
  intro _
  refine wldc2D C X11 (tw_31 hw) f7_61 ?_
  refine wdload C X11 f7_64 rfl ?_
  refine wdmul C X11 f7_66 (v := (FP.dmul (4611686018427387904 : UInt64) (Jvm.Native.java_lang_Math.nans.pick64 true (Jvm.Native.java_lang_Math.nans.pick64 true (Jvm.Native.java_lang_Math.nans.pick64 true FP.dconst0 (FP.dmul u0 (FP.dadd px v0))) (FP.dmul u1 (FP.dadd px v1))) (FP.dmul u2 (FP.dadd px v2))))) rfl (own_nn (own_H_dbl (own_H_max (own_H_max (own_H_max own_H_0 (own_lv hx hl0)) (own_lv hx hl1)) (own_lv hx hl2)) (by have z0 := own_lvb hx hl0; have z1 := own_lvb hx hl1; have z2 := own_lvb hx hl2; omega))) ?_
  refine wdret C X11 f7_67 rfl (by decide) (by decide) ?_
  rw [e11]
  exact ⟨(FP.dmul (4611686018427387904 : UInt64) (Jvm.Native.java_lang_Math.nans.pick64 true (Jvm.Native.java_lang_Math.nans.pick64 true (Jvm.Native.java_lang_Math.nans.pick64 true FP.dconst0 (FP.dmul u0 (FP.dadd px v0))) (FP.dmul u1 (FP.dadd px v1))) (FP.dmul u2 (FP.dadd px v2)))), rfl, N0, rfl, (by have z0 := own_lvb hx hl0; have z1 := own_lvb hx hl1; have z2 := own_lvb hx hl2; simp only [own_pm]; exact own_di (own_H_dbl (own_H_max (own_H_max (own_H_max own_H_0 (own_lv hx hl0)) (own_lv hx hl1)) (own_lv hx hl2)) (by omega)) (by simp; omega))⟩
theorem ef_7_4_1 (m : MethodId) (a : Addr) (ix : Int32) : entryFrame m #[(.ref a), (.int ix)] 10 = mkF m 0 #[.val (.ref a), .val (.int ix), .unset, .unset, .unset, .unset, .unset, .unset, .unset, .unset] [] := by first | (simp [entryFrame, mkF, argsToLocals, Value.category]; done) | rfl
def Q7_4_1 (Z : State) (a : Addr) (ix : Int32) (ph : Addr) (pl : Addr) (k1 : ClassId) (k2 : ClassId) (hp : List Value) (ls : List Value) (P : Nat → Int) (W : Nat → Int) (D : Nat → Int) (h0 : Heap) (n0 : Nat) (v9 : Option Value) (h9 : Heap) (L9 : List Loc) : Prop := ∃ (rv : UInt64), v9 = some (.double rv) ∧ Fr n0 L9 ∧ h9 = h0 ∧ (FP.Core.DInt (own_pm 3 0 0 (4 - 1) W D (P 1) 1) rv)
set_option maxRecDepth 65536 in
set_option maxHeartbeats 40000000 in
theorem rm7_4_1 (l : Launch) (Z : State) (a0 : Array Value) (hw : ∀ d ∈ tables_1, d.before a0 Z = true) (ws : List Jvm.Cond) (a : Addr) (ix : Int32) (ph : Addr) (pl : Addr) (k1 : ClassId) (k2 : ClassId) (hp : List Value) (ls : List Value) (P : Nat → Int) (W : Nat → Int) (D : Nat → Int) (h0 : Heap) (n0 : Nat) (Z0 : n0 ≤ h0.size) (Fld_0 : Fld Z h0 a "com/example/arbor_center/arborcenter/objective/UpperEnvelope" "halfPoints" "[D" (.ref ph)) (Fld_1 : Fld Z h0 a "com/example/arbor_center/arborcenter/objective/UpperEnvelope" "count" "I" (.int (4 : Int32))) (Fld_2 : Fld Z h0 a "com/example/arbor_center/arborcenter/objective/UpperEnvelope" "lines" "[D" (.ref pl)) (Arv_3 : Arv Z h0 ph k1 .double (4 : Int32) hp (.double (0 : UInt64))) (Arv_4 : Arv Z h0 pl k2 .double (14 : Int32) ls (.double (0 : UInt64))) (hix : (ix = (1 : Int32))) (hL : (own_Ls ls W D)) (hP : (own_Ps hp P 4)) :
    MetFree l (⟨"com/example/arbor_center/arborcenter/objective/UpperEnvelope", "at", "(I)D"⟩ : MethodName) (head1 (Jvm.Cond.code (⟨"com/example/arbor_center/arborcenter/objective/UpperEnvelope", "at", "(I)D"⟩ : MethodName) prog_12_method_4_code 10 (some .double) :: ws) ({ frames := 1, cells := 0, slots := 0, locals := 15 } : Room)) (fun A9 U9 => A9 = #[(.ref a), (.int ix)] ∧ Z.Warmed39 U9.vm ∧ U9.heap = h0) (fun _ _ _ _ _ => True) (fun _ U9 o9 V9 => ∃ v9 L9, o9 = .returned v9 ∧ (Q7_4_1 Z a ix ph pl k1 k2 hp ls P W D h0 n0) v9 V9.heap L9 ∧ FrameEnd U9 o9 V9 L9 ({ frames := 1, cells := 0, slots := 0, locals := 15 } : Room).cells ({ frames := 1, cells := 0, slots := 0, locals := 15 } : Room).slots) := by
  refine met_of (Q := (Q7_4_1 Z a ix ph pl k1 k2 hp ls P W D h0 n0)) pn_7 ?_
  intro p e s m below meth c T0 C X0 e0
  have N0 := Fr.nil n0
  refine Go.cast (ef_7_4_1 m a ix) ?_
  subst hix
  obtain ⟨px, gx, hx⟩ := hP.2 1 (by decide)
  obtain ⟨u0, v0, gu0, gv0, hl0⟩ := hL.2 0 (by decide)
  obtain ⟨u1, v1, gu1, gv1, hl1⟩ := hL.2 1 (by decide)
  obtain ⟨u3, v3, gu3, gv3, hl3⟩ := hL.2 3 (by decide)
  refine waloadN C X0 f7_0 rfl rfl ?_
  refine wget C X0 (host := "") (Or.inl (tw_20 hw)) Via.refl e0 Fld_0 f7_1 ?_
  intro T1 X1 e1
  refine wiloadN C X1 f7_4 rfl ?_
  refine wdaload C X1 e1 Arv_3 f7_5 ⟨by decide, by decide⟩ (i := 1) rfl (v := px) gx ?_
  refine wdstoreN C X1 f7_6 #[.val (.ref a), .val (.int (1 : Int32)), .val (.double px), .second, .unset, .unset, .unset, .unset, .unset, .unset] rfl ?_
  refine wdconst0 C X1 f7_7 ?_
  refine wdstore C X1 f7_8 #[.val (.ref a), .val (.int (1 : Int32)), .val (.double px), .second, .val (.double FP.dconst0), .second, .unset, .unset, .unset, .unset] rfl ?_
  refine wiconst C X1 f7_10 (0 : Int32) rfl ?_
  refine wistore C X1 f7_11 #[.val (.ref a), .val (.int (1 : Int32)), .val (.double px), .second, .val (.double FP.dconst0), .second, .val (.int (0 : Int32)), .unset, .unset, .unset] rfl ?_
  refine wiconst C X1 f7_13 (0 : Int32) rfl ?_
  refine wistore C X1 f7_14 #[.val (.ref a), .val (.int (1 : Int32)), .val (.double px), .second, .val (.double FP.dconst0), .second, .val (.int (0 : Int32)), .val (.int (0 : Int32)), .unset, .unset] rfl ?_
  refine waloadN C X1 f7_16 rfl rfl ?_
  refine wget C X1 (host := "") (Or.inl (tw_29 hw)) Via.refl e1 Fld_1 f7_17 ?_
  intro T2 X2 e2
  refine wiconst C X2 f7_20 (1 : Int32) rfl ?_
  refine wisub C X2 f7_21 ?_
  refine own_foldI (z := (3 : Int32)) (by decide) ?_
  refine wistore C X2 f7_22 #[.val (.ref a), .val (.int (1 : Int32)), .val (.double px), .second, .val (.double FP.dconst0), .second, .val (.int (0 : Int32)), .val (.int (0 : Int32)), .val (.int (3 : Int32)), .unset] rfl ?_
  refine wdload C X2 f7_24 rfl ?_
  refine waloadN C X2 f7_26 rfl rfl ?_
  refine wget C X2 (host := "") (Or.inl (tw_22 hw)) Via.refl e2 Fld_2 f7_27 ?_
  intro T3 X3 e3
  refine wiconst C X3 f7_30 (2 : Int32) rfl ?_
  refine wiload C X3 f7_31 rfl ?_
  refine wimul C X3 f7_33 ?_
  refine own_foldI (z := (0 : Int32)) (by decide) ?_
  refine wdaload C X3 e3 Arv_4 f7_34 ⟨by decide, by decide⟩ (i := 0) rfl (v := u0) gu0 ?_
  refine wdloadN C X3 f7_35 rfl ?_
  refine waloadN C X3 f7_36 rfl rfl ?_
  refine wget C X3 (host := "") (Or.inl (tw_22 hw)) Via.refl e3 Fld_2 f7_37 ?_
  intro T4 X4 e4
  refine wiconst C X4 f7_40 (2 : Int32) rfl ?_
  refine wiload C X4 f7_41 rfl ?_
  refine wimul C X4 f7_43 ?_
  refine own_foldI (z := (0 : Int32)) (by decide) ?_
  refine wiconst C X4 f7_44 (1 : Int32) rfl ?_
  refine wiadd C X4 f7_45 ?_
  refine own_foldI (z := (1 : Int32)) (by decide) ?_
  refine wdaload C X4 e4 Arv_4 f7_46 ⟨by decide, by decide⟩ (i := 1) rfl (v := v0) gv0 ?_
  refine wdadd C X4 f7_47 (v := (FP.dadd px v0)) rfl (own_H_nn (own_pd hx hl0)) ?_
  refine wdmul C X4 f7_48 (v := (FP.dmul u0 (FP.dadd px v0))) rfl (own_H_nn (own_lv hx hl0)) ?_
  refine wmaxD C X4 (tw_42 hw) (tw_43 hw) (tw_2 hw) (tw_44 hw) e4 f7_49 (own_H_nn own_H_0) (own_H_nn (own_lv hx hl0)) rfl (W := 0) (Nat.le_of_eq rfl) (by decide) (by decide) (by decide) (by decide) ?_
  intro T5 X5 e5
  refine wdstore C X5 f7_52 #[.val (.ref a), .val (.int (1 : Int32)), .val (.double px), .second, .val (.double (Jvm.Native.java_lang_Math.nans.pick64 true FP.dconst0 (FP.dmul u0 (FP.dadd px v0)))), .second, .val (.int (0 : Int32)), .val (.int (0 : Int32)), .val (.int (3 : Int32)), .unset] rfl ?_
  refine wiload C X5 f7_54 rfl ?_
  refine wiload C X5 f7_56 rfl ?_
  refine wicmp_ne C X5 f7_58 (fun q => absurd q (by decide : ¬ ((0 : Int32) = (3 : Int32)))) ?_
  intro _
  refine wiload C X5 f7_68 rfl ?_
  refine wiload C X5 f7_70 rfl ?_
  refine wiadd C X5 f7_72 ?_
  refine own_foldI (z := (3 : Int32)) (by decide) ?_
  refine wiconst C X5 f7_73 (1 : Int32) rfl ?_
  refine wiushr C X5 f7_74 ?_
  refine own_foldI (z := (1 : Int32)) (by decide) ?_
  refine wistore C X5 f7_75 #[.val (.ref a), .val (.int (1 : Int32)), .val (.double px), .second, .val (.double (Jvm.Native.java_lang_Math.nans.pick64 true FP.dconst0 (FP.dmul u0 (FP.dadd px v0)))), .second, .val (.int (0 : Int32)), .val (.int (0 : Int32)), .val (.int (3 : Int32)), .val (.int (1 : Int32))] rfl ?_
  refine wiloadN C X5 f7_77 rfl ?_
  refine wiload C X5 f7_78 rfl ?_
  refine wicmp_gt C X5 f7_80 (fun q => absurd q (by decide : ¬ ((1 : Int32) < (1 : Int32)))) ?_
  intro _
  refine wiload C X5 f7_83 rfl ?_
  refine wiconst C X5 f7_85 (1 : Int32) rfl ?_
  refine wiadd C X5 f7_86 ?_
  refine own_foldI (z := (1 : Int32)) (by decide) ?_
  refine wistore C X5 f7_87 #[.val (.ref a), .val (.int (1 : Int32)), .val (.double px), .second, .val (.double (Jvm.Native.java_lang_Math.nans.pick64 true FP.dconst0 (FP.dmul u0 (FP.dadd px v0)))), .second, .val (.int (1 : Int32)), .val (.int (0 : Int32)), .val (.int (3 : Int32)), .val (.int (1 : Int32))] rfl ?_
  refine wiload C X5 f7_89 rfl ?_
  refine wistore C X5 f7_91 #[.val (.ref a), .val (.int (1 : Int32)), .val (.double px), .second, .val (.double (Jvm.Native.java_lang_Math.nans.pick64 true FP.dconst0 (FP.dmul u0 (FP.dadd px v0)))), .second, .val (.int (1 : Int32)), .val (.int (0 : Int32)), .val (.int (1 : Int32)), .val (.int (1 : Int32))] rfl ?_
  refine wgoto C X5 f7_93 ?_
  refine wgoto C X5 f7_116 ?_
  refine wdload C X5 f7_24 rfl ?_
  refine waloadN C X5 f7_26 rfl rfl ?_
  refine wget C X5 (host := "") (Or.inl (tw_22 hw)) Via.refl e5 Fld_2 f7_27 ?_
  intro T6 X6 e6
  refine wiconst C X6 f7_30 (2 : Int32) rfl ?_
  refine wiload C X6 f7_31 rfl ?_
  refine wimul C X6 f7_33 ?_
  refine own_foldI (z := (2 : Int32)) (by decide) ?_
  refine wdaload C X6 e6 Arv_4 f7_34 ⟨by decide, by decide⟩ (i := 2) rfl (v := u1) gu1 ?_
  refine wdloadN C X6 f7_35 rfl ?_
  refine waloadN C X6 f7_36 rfl rfl ?_
  refine wget C X6 (host := "") (Or.inl (tw_22 hw)) Via.refl e6 Fld_2 f7_37 ?_
  intro T7 X7 e7
  refine wiconst C X7 f7_40 (2 : Int32) rfl ?_
  refine wiload C X7 f7_41 rfl ?_
  refine wimul C X7 f7_43 ?_
  refine own_foldI (z := (2 : Int32)) (by decide) ?_
  refine wiconst C X7 f7_44 (1 : Int32) rfl ?_
  refine wiadd C X7 f7_45 ?_
  refine own_foldI (z := (3 : Int32)) (by decide) ?_
  refine wdaload C X7 e7 Arv_4 f7_46 ⟨by decide, by decide⟩ (i := 3) rfl (v := v1) gv1 ?_
  refine wdadd C X7 f7_47 (v := (FP.dadd px v1)) rfl (own_H_nn (own_pd hx hl1)) ?_
  refine wdmul C X7 f7_48 (v := (FP.dmul u1 (FP.dadd px v1))) rfl (own_H_nn (own_lv hx hl1)) ?_
  refine wmaxD C X7 (tw_42 hw) (tw_43 hw) (tw_2 hw) (tw_44 hw) e7 f7_49 (own_H_nn (own_H_max own_H_0 (own_lv hx hl0))) (own_H_nn (own_lv hx hl1)) rfl (W := 0) (Nat.le_of_eq rfl) (by decide) (by decide) (by decide) (by decide) ?_
  intro T8 X8 e8
  refine wdstore C X8 f7_52 #[.val (.ref a), .val (.int (1 : Int32)), .val (.double px), .second, .val (.double (Jvm.Native.java_lang_Math.nans.pick64 true (Jvm.Native.java_lang_Math.nans.pick64 true FP.dconst0 (FP.dmul u0 (FP.dadd px v0))) (FP.dmul u1 (FP.dadd px v1)))), .second, .val (.int (1 : Int32)), .val (.int (0 : Int32)), .val (.int (1 : Int32)), .val (.int (1 : Int32))] rfl ?_
  refine wiload C X8 f7_54 rfl ?_
  refine wiload C X8 f7_56 rfl ?_
  refine wicmp_ne C X8 f7_58 (fun q => absurd q (by decide : ¬ ((0 : Int32) = (1 : Int32)))) ?_
  intro _
  refine wiload C X8 f7_68 rfl ?_
  refine wiload C X8 f7_70 rfl ?_
  refine wiadd C X8 f7_72 ?_
  refine own_foldI (z := (1 : Int32)) (by decide) ?_
  refine wiconst C X8 f7_73 (1 : Int32) rfl ?_
  refine wiushr C X8 f7_74 ?_
  refine own_foldI (z := (0 : Int32)) (by decide) ?_
  refine wistore C X8 f7_75 #[.val (.ref a), .val (.int (1 : Int32)), .val (.double px), .second, .val (.double (Jvm.Native.java_lang_Math.nans.pick64 true (Jvm.Native.java_lang_Math.nans.pick64 true FP.dconst0 (FP.dmul u0 (FP.dadd px v0))) (FP.dmul u1 (FP.dadd px v1)))), .second, .val (.int (1 : Int32)), .val (.int (0 : Int32)), .val (.int (1 : Int32)), .val (.int (0 : Int32))] rfl ?_
  refine wiloadN C X8 f7_77 rfl ?_
  refine wiload C X8 f7_78 rfl ?_
  refine wicmp_gt C X8 f7_80 ?_ (fun q => absurd (by decide : ((0 : Int32) < (1 : Int32))) q)
  intro _
  refine wiload C X8 f7_96 rfl ?_
  refine wiconst C X8 f7_98 (2 : Int32) rfl ?_
  refine wiload C X8 f7_99 rfl ?_
  refine wiload C X8 f7_101 rfl ?_
  refine wisub C X8 f7_103 ?_
  refine own_foldI (z := (0 : Int32)) (by decide) ?_
  refine wiconst C X8 f7_104 (1 : Int32) rfl ?_
  refine wiadd C X8 f7_105 ?_
  refine own_foldI (z := (1 : Int32)) (by decide) ?_
  refine wimul C X8 f7_106 ?_
  refine own_foldI (z := (2 : Int32)) (by decide) ?_
  refine wiadd C X8 f7_107 ?_
  refine own_foldI (z := (3 : Int32)) (by decide) ?_
  refine wistore C X8 f7_108 #[.val (.ref a), .val (.int (1 : Int32)), .val (.double px), .second, .val (.double (Jvm.Native.java_lang_Math.nans.pick64 true (Jvm.Native.java_lang_Math.nans.pick64 true FP.dconst0 (FP.dmul u0 (FP.dadd px v0))) (FP.dmul u1 (FP.dadd px v1)))), .second, .val (.int (3 : Int32)), .val (.int (0 : Int32)), .val (.int (1 : Int32)), .val (.int (0 : Int32))] rfl ?_
  refine wiload C X8 f7_110 rfl ?_
  refine wiconst C X8 f7_112 (1 : Int32) rfl ?_
  refine wiadd C X8 f7_113 ?_
  refine own_foldI (z := (1 : Int32)) (by decide) ?_
  refine wistore C X8 f7_114 #[.val (.ref a), .val (.int (1 : Int32)), .val (.double px), .second, .val (.double (Jvm.Native.java_lang_Math.nans.pick64 true (Jvm.Native.java_lang_Math.nans.pick64 true FP.dconst0 (FP.dmul u0 (FP.dadd px v0))) (FP.dmul u1 (FP.dadd px v1)))), .second, .val (.int (3 : Int32)), .val (.int (1 : Int32)), .val (.int (1 : Int32)), .val (.int (0 : Int32))] rfl ?_
  refine wgoto C X8 f7_116 ?_
  refine wdload C X8 f7_24 rfl ?_
  refine waloadN C X8 f7_26 rfl rfl ?_
  refine wget C X8 (host := "") (Or.inl (tw_22 hw)) Via.refl e8 Fld_2 f7_27 ?_
  intro T9 X9 e9
  refine wiconst C X9 f7_30 (2 : Int32) rfl ?_
  refine wiload C X9 f7_31 rfl ?_
  refine wimul C X9 f7_33 ?_
  refine own_foldI (z := (6 : Int32)) (by decide) ?_
  refine wdaload C X9 e9 Arv_4 f7_34 ⟨by decide, by decide⟩ (i := 6) rfl (v := u3) gu3 ?_
  refine wdloadN C X9 f7_35 rfl ?_
  refine waloadN C X9 f7_36 rfl rfl ?_
  refine wget C X9 (host := "") (Or.inl (tw_22 hw)) Via.refl e9 Fld_2 f7_37 ?_
  intro T10 X10 e10
  refine wiconst C X10 f7_40 (2 : Int32) rfl ?_
  refine wiload C X10 f7_41 rfl ?_
  refine wimul C X10 f7_43 ?_
  refine own_foldI (z := (6 : Int32)) (by decide) ?_
  refine wiconst C X10 f7_44 (1 : Int32) rfl ?_
  refine wiadd C X10 f7_45 ?_
  refine own_foldI (z := (7 : Int32)) (by decide) ?_
  refine wdaload C X10 e10 Arv_4 f7_46 ⟨by decide, by decide⟩ (i := 7) rfl (v := v3) gv3 ?_
  refine wdadd C X10 f7_47 (v := (FP.dadd px v3)) rfl (own_H_nn (own_pd hx hl3)) ?_
  refine wdmul C X10 f7_48 (v := (FP.dmul u3 (FP.dadd px v3))) rfl (own_H_nn (own_lv hx hl3)) ?_
  refine wmaxD C X10 (tw_42 hw) (tw_43 hw) (tw_2 hw) (tw_44 hw) e10 f7_49 (own_H_nn (own_H_max (own_H_max own_H_0 (own_lv hx hl0)) (own_lv hx hl1))) (own_H_nn (own_lv hx hl3)) rfl (W := 0) (Nat.le_of_eq rfl) (by decide) (by decide) (by decide) (by decide) ?_
  intro T11 X11 e11
  refine wdstore C X11 f7_52 #[.val (.ref a), .val (.int (1 : Int32)), .val (.double px), .second, .val (.double (Jvm.Native.java_lang_Math.nans.pick64 true (Jvm.Native.java_lang_Math.nans.pick64 true (Jvm.Native.java_lang_Math.nans.pick64 true FP.dconst0 (FP.dmul u0 (FP.dadd px v0))) (FP.dmul u1 (FP.dadd px v1))) (FP.dmul u3 (FP.dadd px v3)))), .second, .val (.int (3 : Int32)), .val (.int (1 : Int32)), .val (.int (1 : Int32)), .val (.int (0 : Int32))] rfl ?_
  refine wiload C X11 f7_54 rfl ?_
  refine wiload C X11 f7_56 rfl ?_
  refine wicmp_ne C X11 f7_58 ?_ (fun q => absurd (by decide : ((1 : Int32) = (1 : Int32))) q)
  intro _
  refine wldc2D C X11 (tw_31 hw) f7_61 ?_
  refine wdload C X11 f7_64 rfl ?_
  refine wdmul C X11 f7_66 (v := (FP.dmul (4611686018427387904 : UInt64) (Jvm.Native.java_lang_Math.nans.pick64 true (Jvm.Native.java_lang_Math.nans.pick64 true (Jvm.Native.java_lang_Math.nans.pick64 true FP.dconst0 (FP.dmul u0 (FP.dadd px v0))) (FP.dmul u1 (FP.dadd px v1))) (FP.dmul u3 (FP.dadd px v3))))) rfl (own_nn (own_H_dbl (own_H_max (own_H_max (own_H_max own_H_0 (own_lv hx hl0)) (own_lv hx hl1)) (own_lv hx hl3)) (by have z0 := own_lvb hx hl0; have z1 := own_lvb hx hl1; have z3 := own_lvb hx hl3; omega))) ?_
  refine wdret C X11 f7_67 rfl (by decide) (by decide) ?_
  rw [e11]
  exact ⟨(FP.dmul (4611686018427387904 : UInt64) (Jvm.Native.java_lang_Math.nans.pick64 true (Jvm.Native.java_lang_Math.nans.pick64 true (Jvm.Native.java_lang_Math.nans.pick64 true FP.dconst0 (FP.dmul u0 (FP.dadd px v0))) (FP.dmul u1 (FP.dadd px v1))) (FP.dmul u3 (FP.dadd px v3)))), rfl, N0, rfl, (by have z0 := own_lvb hx hl0; have z1 := own_lvb hx hl1; have z3 := own_lvb hx hl3; simp only [own_pm]; exact own_di (own_H_dbl (own_H_max (own_H_max (own_H_max own_H_0 (own_lv hx hl0)) (own_lv hx hl1)) (own_lv hx hl3)) (by omega)) (by simp; omega))⟩
theorem ef_7_4_2 (m : MethodId) (a : Addr) (ix : Int32) : entryFrame m #[(.ref a), (.int ix)] 10 = mkF m 0 #[.val (.ref a), .val (.int ix), .unset, .unset, .unset, .unset, .unset, .unset, .unset, .unset] [] := by first | (simp [entryFrame, mkF, argsToLocals, Value.category]; done) | rfl
def Q7_4_2 (Z : State) (a : Addr) (ix : Int32) (ph : Addr) (pl : Addr) (k1 : ClassId) (k2 : ClassId) (hp : List Value) (ls : List Value) (P : Nat → Int) (W : Nat → Int) (D : Nat → Int) (h0 : Heap) (n0 : Nat) (v9 : Option Value) (h9 : Heap) (L9 : List Loc) : Prop := ∃ (rv : UInt64), v9 = some (.double rv) ∧ Fr n0 L9 ∧ h9 = h0 ∧ (FP.Core.DInt (own_pm 3 0 0 (4 - 1) W D (P 2) 2) rv)
set_option maxRecDepth 65536 in
set_option maxHeartbeats 40000000 in
theorem rm7_4_2 (l : Launch) (Z : State) (a0 : Array Value) (hw : ∀ d ∈ tables_1, d.before a0 Z = true) (ws : List Jvm.Cond) (a : Addr) (ix : Int32) (ph : Addr) (pl : Addr) (k1 : ClassId) (k2 : ClassId) (hp : List Value) (ls : List Value) (P : Nat → Int) (W : Nat → Int) (D : Nat → Int) (h0 : Heap) (n0 : Nat) (Z0 : n0 ≤ h0.size) (Fld_0 : Fld Z h0 a "com/example/arbor_center/arborcenter/objective/UpperEnvelope" "halfPoints" "[D" (.ref ph)) (Fld_1 : Fld Z h0 a "com/example/arbor_center/arborcenter/objective/UpperEnvelope" "count" "I" (.int (4 : Int32))) (Fld_2 : Fld Z h0 a "com/example/arbor_center/arborcenter/objective/UpperEnvelope" "lines" "[D" (.ref pl)) (Arv_3 : Arv Z h0 ph k1 .double (4 : Int32) hp (.double (0 : UInt64))) (Arv_4 : Arv Z h0 pl k2 .double (14 : Int32) ls (.double (0 : UInt64))) (hix : (ix = (2 : Int32))) (hL : (own_Ls ls W D)) (hP : (own_Ps hp P 4)) :
    MetFree l (⟨"com/example/arbor_center/arborcenter/objective/UpperEnvelope", "at", "(I)D"⟩ : MethodName) (head1 (Jvm.Cond.code (⟨"com/example/arbor_center/arborcenter/objective/UpperEnvelope", "at", "(I)D"⟩ : MethodName) prog_12_method_4_code 10 (some .double) :: ws) ({ frames := 1, cells := 0, slots := 0, locals := 15 } : Room)) (fun A9 U9 => A9 = #[(.ref a), (.int ix)] ∧ Z.Warmed39 U9.vm ∧ U9.heap = h0) (fun _ _ _ _ _ => True) (fun _ U9 o9 V9 => ∃ v9 L9, o9 = .returned v9 ∧ (Q7_4_2 Z a ix ph pl k1 k2 hp ls P W D h0 n0) v9 V9.heap L9 ∧ FrameEnd U9 o9 V9 L9 ({ frames := 1, cells := 0, slots := 0, locals := 15 } : Room).cells ({ frames := 1, cells := 0, slots := 0, locals := 15 } : Room).slots) := by
  refine met_of (Q := (Q7_4_2 Z a ix ph pl k1 k2 hp ls P W D h0 n0)) pn_7 ?_
  intro p e s m below meth c T0 C X0 e0
  have N0 := Fr.nil n0
  refine Go.cast (ef_7_4_2 m a ix) ?_
  subst hix
  obtain ⟨px, gx, hx⟩ := hP.2 2 (by decide)
  obtain ⟨u0, v0, gu0, gv0, hl0⟩ := hL.2 0 (by decide)
  obtain ⟨u4, v4, gu4, gv4, hl4⟩ := hL.2 4 (by decide)
  obtain ⟨u5, v5, gu5, gv5, hl5⟩ := hL.2 5 (by decide)
  refine waloadN C X0 f7_0 rfl rfl ?_
  refine wget C X0 (host := "") (Or.inl (tw_20 hw)) Via.refl e0 Fld_0 f7_1 ?_
  intro T1 X1 e1
  refine wiloadN C X1 f7_4 rfl ?_
  refine wdaload C X1 e1 Arv_3 f7_5 ⟨by decide, by decide⟩ (i := 2) rfl (v := px) gx ?_
  refine wdstoreN C X1 f7_6 #[.val (.ref a), .val (.int (2 : Int32)), .val (.double px), .second, .unset, .unset, .unset, .unset, .unset, .unset] rfl ?_
  refine wdconst0 C X1 f7_7 ?_
  refine wdstore C X1 f7_8 #[.val (.ref a), .val (.int (2 : Int32)), .val (.double px), .second, .val (.double FP.dconst0), .second, .unset, .unset, .unset, .unset] rfl ?_
  refine wiconst C X1 f7_10 (0 : Int32) rfl ?_
  refine wistore C X1 f7_11 #[.val (.ref a), .val (.int (2 : Int32)), .val (.double px), .second, .val (.double FP.dconst0), .second, .val (.int (0 : Int32)), .unset, .unset, .unset] rfl ?_
  refine wiconst C X1 f7_13 (0 : Int32) rfl ?_
  refine wistore C X1 f7_14 #[.val (.ref a), .val (.int (2 : Int32)), .val (.double px), .second, .val (.double FP.dconst0), .second, .val (.int (0 : Int32)), .val (.int (0 : Int32)), .unset, .unset] rfl ?_
  refine waloadN C X1 f7_16 rfl rfl ?_
  refine wget C X1 (host := "") (Or.inl (tw_29 hw)) Via.refl e1 Fld_1 f7_17 ?_
  intro T2 X2 e2
  refine wiconst C X2 f7_20 (1 : Int32) rfl ?_
  refine wisub C X2 f7_21 ?_
  refine own_foldI (z := (3 : Int32)) (by decide) ?_
  refine wistore C X2 f7_22 #[.val (.ref a), .val (.int (2 : Int32)), .val (.double px), .second, .val (.double FP.dconst0), .second, .val (.int (0 : Int32)), .val (.int (0 : Int32)), .val (.int (3 : Int32)), .unset] rfl ?_
  refine wdload C X2 f7_24 rfl ?_
  refine waloadN C X2 f7_26 rfl rfl ?_
  refine wget C X2 (host := "") (Or.inl (tw_22 hw)) Via.refl e2 Fld_2 f7_27 ?_
  intro T3 X3 e3
  refine wiconst C X3 f7_30 (2 : Int32) rfl ?_
  refine wiload C X3 f7_31 rfl ?_
  refine wimul C X3 f7_33 ?_
  refine own_foldI (z := (0 : Int32)) (by decide) ?_
  refine wdaload C X3 e3 Arv_4 f7_34 ⟨by decide, by decide⟩ (i := 0) rfl (v := u0) gu0 ?_
  refine wdloadN C X3 f7_35 rfl ?_
  refine waloadN C X3 f7_36 rfl rfl ?_
  refine wget C X3 (host := "") (Or.inl (tw_22 hw)) Via.refl e3 Fld_2 f7_37 ?_
  intro T4 X4 e4
  refine wiconst C X4 f7_40 (2 : Int32) rfl ?_
  refine wiload C X4 f7_41 rfl ?_
  refine wimul C X4 f7_43 ?_
  refine own_foldI (z := (0 : Int32)) (by decide) ?_
  refine wiconst C X4 f7_44 (1 : Int32) rfl ?_
  refine wiadd C X4 f7_45 ?_
  refine own_foldI (z := (1 : Int32)) (by decide) ?_
  refine wdaload C X4 e4 Arv_4 f7_46 ⟨by decide, by decide⟩ (i := 1) rfl (v := v0) gv0 ?_
  refine wdadd C X4 f7_47 (v := (FP.dadd px v0)) rfl (own_H_nn (own_pd hx hl0)) ?_
  refine wdmul C X4 f7_48 (v := (FP.dmul u0 (FP.dadd px v0))) rfl (own_H_nn (own_lv hx hl0)) ?_
  refine wmaxD C X4 (tw_42 hw) (tw_43 hw) (tw_2 hw) (tw_44 hw) e4 f7_49 (own_H_nn own_H_0) (own_H_nn (own_lv hx hl0)) rfl (W := 0) (Nat.le_of_eq rfl) (by decide) (by decide) (by decide) (by decide) ?_
  intro T5 X5 e5
  refine wdstore C X5 f7_52 #[.val (.ref a), .val (.int (2 : Int32)), .val (.double px), .second, .val (.double (Jvm.Native.java_lang_Math.nans.pick64 true FP.dconst0 (FP.dmul u0 (FP.dadd px v0)))), .second, .val (.int (0 : Int32)), .val (.int (0 : Int32)), .val (.int (3 : Int32)), .unset] rfl ?_
  refine wiload C X5 f7_54 rfl ?_
  refine wiload C X5 f7_56 rfl ?_
  refine wicmp_ne C X5 f7_58 (fun q => absurd q (by decide : ¬ ((0 : Int32) = (3 : Int32)))) ?_
  intro _
  refine wiload C X5 f7_68 rfl ?_
  refine wiload C X5 f7_70 rfl ?_
  refine wiadd C X5 f7_72 ?_
  refine own_foldI (z := (3 : Int32)) (by decide) ?_
  refine wiconst C X5 f7_73 (1 : Int32) rfl ?_
  refine wiushr C X5 f7_74 ?_
  refine own_foldI (z := (1 : Int32)) (by decide) ?_
  refine wistore C X5 f7_75 #[.val (.ref a), .val (.int (2 : Int32)), .val (.double px), .second, .val (.double (Jvm.Native.java_lang_Math.nans.pick64 true FP.dconst0 (FP.dmul u0 (FP.dadd px v0)))), .second, .val (.int (0 : Int32)), .val (.int (0 : Int32)), .val (.int (3 : Int32)), .val (.int (1 : Int32))] rfl ?_
  refine wiloadN C X5 f7_77 rfl ?_
  refine wiload C X5 f7_78 rfl ?_
  refine wicmp_gt C X5 f7_80 ?_ (fun q => absurd (by decide : ((1 : Int32) < (2 : Int32))) q)
  intro _
  refine wiload C X5 f7_96 rfl ?_
  refine wiconst C X5 f7_98 (2 : Int32) rfl ?_
  refine wiload C X5 f7_99 rfl ?_
  refine wiload C X5 f7_101 rfl ?_
  refine wisub C X5 f7_103 ?_
  refine own_foldI (z := (1 : Int32)) (by decide) ?_
  refine wiconst C X5 f7_104 (1 : Int32) rfl ?_
  refine wiadd C X5 f7_105 ?_
  refine own_foldI (z := (2 : Int32)) (by decide) ?_
  refine wimul C X5 f7_106 ?_
  refine own_foldI (z := (4 : Int32)) (by decide) ?_
  refine wiadd C X5 f7_107 ?_
  refine own_foldI (z := (4 : Int32)) (by decide) ?_
  refine wistore C X5 f7_108 #[.val (.ref a), .val (.int (2 : Int32)), .val (.double px), .second, .val (.double (Jvm.Native.java_lang_Math.nans.pick64 true FP.dconst0 (FP.dmul u0 (FP.dadd px v0)))), .second, .val (.int (4 : Int32)), .val (.int (0 : Int32)), .val (.int (3 : Int32)), .val (.int (1 : Int32))] rfl ?_
  refine wiload C X5 f7_110 rfl ?_
  refine wiconst C X5 f7_112 (1 : Int32) rfl ?_
  refine wiadd C X5 f7_113 ?_
  refine own_foldI (z := (2 : Int32)) (by decide) ?_
  refine wistore C X5 f7_114 #[.val (.ref a), .val (.int (2 : Int32)), .val (.double px), .second, .val (.double (Jvm.Native.java_lang_Math.nans.pick64 true FP.dconst0 (FP.dmul u0 (FP.dadd px v0)))), .second, .val (.int (4 : Int32)), .val (.int (2 : Int32)), .val (.int (3 : Int32)), .val (.int (1 : Int32))] rfl ?_
  refine wgoto C X5 f7_116 ?_
  refine wdload C X5 f7_24 rfl ?_
  refine waloadN C X5 f7_26 rfl rfl ?_
  refine wget C X5 (host := "") (Or.inl (tw_22 hw)) Via.refl e5 Fld_2 f7_27 ?_
  intro T6 X6 e6
  refine wiconst C X6 f7_30 (2 : Int32) rfl ?_
  refine wiload C X6 f7_31 rfl ?_
  refine wimul C X6 f7_33 ?_
  refine own_foldI (z := (8 : Int32)) (by decide) ?_
  refine wdaload C X6 e6 Arv_4 f7_34 ⟨by decide, by decide⟩ (i := 8) rfl (v := u4) gu4 ?_
  refine wdloadN C X6 f7_35 rfl ?_
  refine waloadN C X6 f7_36 rfl rfl ?_
  refine wget C X6 (host := "") (Or.inl (tw_22 hw)) Via.refl e6 Fld_2 f7_37 ?_
  intro T7 X7 e7
  refine wiconst C X7 f7_40 (2 : Int32) rfl ?_
  refine wiload C X7 f7_41 rfl ?_
  refine wimul C X7 f7_43 ?_
  refine own_foldI (z := (8 : Int32)) (by decide) ?_
  refine wiconst C X7 f7_44 (1 : Int32) rfl ?_
  refine wiadd C X7 f7_45 ?_
  refine own_foldI (z := (9 : Int32)) (by decide) ?_
  refine wdaload C X7 e7 Arv_4 f7_46 ⟨by decide, by decide⟩ (i := 9) rfl (v := v4) gv4 ?_
  refine wdadd C X7 f7_47 (v := (FP.dadd px v4)) rfl (own_H_nn (own_pd hx hl4)) ?_
  refine wdmul C X7 f7_48 (v := (FP.dmul u4 (FP.dadd px v4))) rfl (own_H_nn (own_lv hx hl4)) ?_
  refine wmaxD C X7 (tw_42 hw) (tw_43 hw) (tw_2 hw) (tw_44 hw) e7 f7_49 (own_H_nn (own_H_max own_H_0 (own_lv hx hl0))) (own_H_nn (own_lv hx hl4)) rfl (W := 0) (Nat.le_of_eq rfl) (by decide) (by decide) (by decide) (by decide) ?_
  intro T8 X8 e8
  refine wdstore C X8 f7_52 #[.val (.ref a), .val (.int (2 : Int32)), .val (.double px), .second, .val (.double (Jvm.Native.java_lang_Math.nans.pick64 true (Jvm.Native.java_lang_Math.nans.pick64 true FP.dconst0 (FP.dmul u0 (FP.dadd px v0))) (FP.dmul u4 (FP.dadd px v4)))), .second, .val (.int (4 : Int32)), .val (.int (2 : Int32)), .val (.int (3 : Int32)), .val (.int (1 : Int32))] rfl ?_
  refine wiload C X8 f7_54 rfl ?_
  refine wiload C X8 f7_56 rfl ?_
  refine wicmp_ne C X8 f7_58 (fun q => absurd q (by decide : ¬ ((2 : Int32) = (3 : Int32)))) ?_
  intro _
  refine wiload C X8 f7_68 rfl ?_
  refine wiload C X8 f7_70 rfl ?_
  refine wiadd C X8 f7_72 ?_
  refine own_foldI (z := (5 : Int32)) (by decide) ?_
  refine wiconst C X8 f7_73 (1 : Int32) rfl ?_
  refine wiushr C X8 f7_74 ?_
  refine own_foldI (z := (2 : Int32)) (by decide) ?_
  refine wistore C X8 f7_75 #[.val (.ref a), .val (.int (2 : Int32)), .val (.double px), .second, .val (.double (Jvm.Native.java_lang_Math.nans.pick64 true (Jvm.Native.java_lang_Math.nans.pick64 true FP.dconst0 (FP.dmul u0 (FP.dadd px v0))) (FP.dmul u4 (FP.dadd px v4)))), .second, .val (.int (4 : Int32)), .val (.int (2 : Int32)), .val (.int (3 : Int32)), .val (.int (2 : Int32))] rfl ?_
  refine wiloadN C X8 f7_77 rfl ?_
  refine wiload C X8 f7_78 rfl ?_
  refine wicmp_gt C X8 f7_80 (fun q => absurd q (by decide : ¬ ((2 : Int32) < (2 : Int32)))) ?_
  intro _
  refine wiload C X8 f7_83 rfl ?_
  refine wiconst C X8 f7_85 (1 : Int32) rfl ?_
  refine wiadd C X8 f7_86 ?_
  refine own_foldI (z := (5 : Int32)) (by decide) ?_
  refine wistore C X8 f7_87 #[.val (.ref a), .val (.int (2 : Int32)), .val (.double px), .second, .val (.double (Jvm.Native.java_lang_Math.nans.pick64 true (Jvm.Native.java_lang_Math.nans.pick64 true FP.dconst0 (FP.dmul u0 (FP.dadd px v0))) (FP.dmul u4 (FP.dadd px v4)))), .second, .val (.int (5 : Int32)), .val (.int (2 : Int32)), .val (.int (3 : Int32)), .val (.int (2 : Int32))] rfl ?_
  refine wiload C X8 f7_89 rfl ?_
  refine wistore C X8 f7_91 #[.val (.ref a), .val (.int (2 : Int32)), .val (.double px), .second, .val (.double (Jvm.Native.java_lang_Math.nans.pick64 true (Jvm.Native.java_lang_Math.nans.pick64 true FP.dconst0 (FP.dmul u0 (FP.dadd px v0))) (FP.dmul u4 (FP.dadd px v4)))), .second, .val (.int (5 : Int32)), .val (.int (2 : Int32)), .val (.int (2 : Int32)), .val (.int (2 : Int32))] rfl ?_
  refine wgoto C X8 f7_93 ?_
  refine wgoto C X8 f7_116 ?_
  refine wdload C X8 f7_24 rfl ?_
  refine waloadN C X8 f7_26 rfl rfl ?_
  refine wget C X8 (host := "") (Or.inl (tw_22 hw)) Via.refl e8 Fld_2 f7_27 ?_
  intro T9 X9 e9
  refine wiconst C X9 f7_30 (2 : Int32) rfl ?_
  refine wiload C X9 f7_31 rfl ?_
  refine wimul C X9 f7_33 ?_
  refine own_foldI (z := (10 : Int32)) (by decide) ?_
  refine wdaload C X9 e9 Arv_4 f7_34 ⟨by decide, by decide⟩ (i := 10) rfl (v := u5) gu5 ?_
  refine wdloadN C X9 f7_35 rfl ?_
  refine waloadN C X9 f7_36 rfl rfl ?_
  refine wget C X9 (host := "") (Or.inl (tw_22 hw)) Via.refl e9 Fld_2 f7_37 ?_
  intro T10 X10 e10
  refine wiconst C X10 f7_40 (2 : Int32) rfl ?_
  refine wiload C X10 f7_41 rfl ?_
  refine wimul C X10 f7_43 ?_
  refine own_foldI (z := (10 : Int32)) (by decide) ?_
  refine wiconst C X10 f7_44 (1 : Int32) rfl ?_
  refine wiadd C X10 f7_45 ?_
  refine own_foldI (z := (11 : Int32)) (by decide) ?_
  refine wdaload C X10 e10 Arv_4 f7_46 ⟨by decide, by decide⟩ (i := 11) rfl (v := v5) gv5 ?_
  refine wdadd C X10 f7_47 (v := (FP.dadd px v5)) rfl (own_H_nn (own_pd hx hl5)) ?_
  refine wdmul C X10 f7_48 (v := (FP.dmul u5 (FP.dadd px v5))) rfl (own_H_nn (own_lv hx hl5)) ?_
  refine wmaxD C X10 (tw_42 hw) (tw_43 hw) (tw_2 hw) (tw_44 hw) e10 f7_49 (own_H_nn (own_H_max (own_H_max own_H_0 (own_lv hx hl0)) (own_lv hx hl4))) (own_H_nn (own_lv hx hl5)) rfl (W := 0) (Nat.le_of_eq rfl) (by decide) (by decide) (by decide) (by decide) ?_
  intro T11 X11 e11
  refine wdstore C X11 f7_52 #[.val (.ref a), .val (.int (2 : Int32)), .val (.double px), .second, .val (.double (Jvm.Native.java_lang_Math.nans.pick64 true (Jvm.Native.java_lang_Math.nans.pick64 true (Jvm.Native.java_lang_Math.nans.pick64 true FP.dconst0 (FP.dmul u0 (FP.dadd px v0))) (FP.dmul u4 (FP.dadd px v4))) (FP.dmul u5 (FP.dadd px v5)))), .second, .val (.int (5 : Int32)), .val (.int (2 : Int32)), .val (.int (2 : Int32)), .val (.int (2 : Int32))] rfl ?_
  refine wiload C X11 f7_54 rfl ?_
  refine wiload C X11 f7_56 rfl ?_
  refine wicmp_ne C X11 f7_58 ?_ (fun q => absurd (by decide : ((2 : Int32) = (2 : Int32))) q)
  intro _
  refine wldc2D C X11 (tw_31 hw) f7_61 ?_
  refine wdload C X11 f7_64 rfl ?_
  refine wdmul C X11 f7_66 (v := (FP.dmul (4611686018427387904 : UInt64) (Jvm.Native.java_lang_Math.nans.pick64 true (Jvm.Native.java_lang_Math.nans.pick64 true (Jvm.Native.java_lang_Math.nans.pick64 true FP.dconst0 (FP.dmul u0 (FP.dadd px v0))) (FP.dmul u4 (FP.dadd px v4))) (FP.dmul u5 (FP.dadd px v5))))) rfl (own_nn (own_H_dbl (own_H_max (own_H_max (own_H_max own_H_0 (own_lv hx hl0)) (own_lv hx hl4)) (own_lv hx hl5)) (by have z0 := own_lvb hx hl0; have z4 := own_lvb hx hl4; have z5 := own_lvb hx hl5; omega))) ?_
  refine wdret C X11 f7_67 rfl (by decide) (by decide) ?_
  rw [e11]
  exact ⟨(FP.dmul (4611686018427387904 : UInt64) (Jvm.Native.java_lang_Math.nans.pick64 true (Jvm.Native.java_lang_Math.nans.pick64 true (Jvm.Native.java_lang_Math.nans.pick64 true FP.dconst0 (FP.dmul u0 (FP.dadd px v0))) (FP.dmul u4 (FP.dadd px v4))) (FP.dmul u5 (FP.dadd px v5)))), rfl, N0, rfl, (by have z0 := own_lvb hx hl0; have z4 := own_lvb hx hl4; have z5 := own_lvb hx hl5; simp only [own_pm]; exact own_di (own_H_dbl (own_H_max (own_H_max (own_H_max own_H_0 (own_lv hx hl0)) (own_lv hx hl4)) (own_lv hx hl5)) (by omega)) (by simp; omega))⟩
theorem ef_7_4_3 (m : MethodId) (a : Addr) (ix : Int32) : entryFrame m #[(.ref a), (.int ix)] 10 = mkF m 0 #[.val (.ref a), .val (.int ix), .unset, .unset, .unset, .unset, .unset, .unset, .unset, .unset] [] := by first | (simp [entryFrame, mkF, argsToLocals, Value.category]; done) | rfl
def Q7_4_3 (Z : State) (a : Addr) (ix : Int32) (ph : Addr) (pl : Addr) (k1 : ClassId) (k2 : ClassId) (hp : List Value) (ls : List Value) (P : Nat → Int) (W : Nat → Int) (D : Nat → Int) (h0 : Heap) (n0 : Nat) (v9 : Option Value) (h9 : Heap) (L9 : List Loc) : Prop := ∃ (rv : UInt64), v9 = some (.double rv) ∧ Fr n0 L9 ∧ h9 = h0 ∧ (FP.Core.DInt (own_pm 3 0 0 (4 - 1) W D (P 3) 3) rv)
set_option maxRecDepth 65536 in
set_option maxHeartbeats 40000000 in
theorem rm7_4_3 (l : Launch) (Z : State) (a0 : Array Value) (hw : ∀ d ∈ tables_1, d.before a0 Z = true) (ws : List Jvm.Cond) (a : Addr) (ix : Int32) (ph : Addr) (pl : Addr) (k1 : ClassId) (k2 : ClassId) (hp : List Value) (ls : List Value) (P : Nat → Int) (W : Nat → Int) (D : Nat → Int) (h0 : Heap) (n0 : Nat) (Z0 : n0 ≤ h0.size) (Fld_0 : Fld Z h0 a "com/example/arbor_center/arborcenter/objective/UpperEnvelope" "halfPoints" "[D" (.ref ph)) (Fld_1 : Fld Z h0 a "com/example/arbor_center/arborcenter/objective/UpperEnvelope" "count" "I" (.int (4 : Int32))) (Fld_2 : Fld Z h0 a "com/example/arbor_center/arborcenter/objective/UpperEnvelope" "lines" "[D" (.ref pl)) (Arv_3 : Arv Z h0 ph k1 .double (4 : Int32) hp (.double (0 : UInt64))) (Arv_4 : Arv Z h0 pl k2 .double (14 : Int32) ls (.double (0 : UInt64))) (hix : (ix = (3 : Int32))) (hL : (own_Ls ls W D)) (hP : (own_Ps hp P 4)) :
    MetFree l (⟨"com/example/arbor_center/arborcenter/objective/UpperEnvelope", "at", "(I)D"⟩ : MethodName) (head1 (Jvm.Cond.code (⟨"com/example/arbor_center/arborcenter/objective/UpperEnvelope", "at", "(I)D"⟩ : MethodName) prog_12_method_4_code 10 (some .double) :: ws) ({ frames := 1, cells := 0, slots := 0, locals := 15 } : Room)) (fun A9 U9 => A9 = #[(.ref a), (.int ix)] ∧ Z.Warmed39 U9.vm ∧ U9.heap = h0) (fun _ _ _ _ _ => True) (fun _ U9 o9 V9 => ∃ v9 L9, o9 = .returned v9 ∧ (Q7_4_3 Z a ix ph pl k1 k2 hp ls P W D h0 n0) v9 V9.heap L9 ∧ FrameEnd U9 o9 V9 L9 ({ frames := 1, cells := 0, slots := 0, locals := 15 } : Room).cells ({ frames := 1, cells := 0, slots := 0, locals := 15 } : Room).slots) := by
  refine met_of (Q := (Q7_4_3 Z a ix ph pl k1 k2 hp ls P W D h0 n0)) pn_7 ?_
  intro p e s m below meth c T0 C X0 e0
  have N0 := Fr.nil n0
  refine Go.cast (ef_7_4_3 m a ix) ?_
  subst hix
  obtain ⟨px, gx, hx⟩ := hP.2 3 (by decide)
  obtain ⟨u0, v0, gu0, gv0, hl0⟩ := hL.2 0 (by decide)
  obtain ⟨u4, v4, gu4, gv4, hl4⟩ := hL.2 4 (by decide)
  obtain ⟨u6, v6, gu6, gv6, hl6⟩ := hL.2 6 (by decide)
  refine waloadN C X0 f7_0 rfl rfl ?_
  refine wget C X0 (host := "") (Or.inl (tw_20 hw)) Via.refl e0 Fld_0 f7_1 ?_
  intro T1 X1 e1
  refine wiloadN C X1 f7_4 rfl ?_
  refine wdaload C X1 e1 Arv_3 f7_5 ⟨by decide, by decide⟩ (i := 3) rfl (v := px) gx ?_
  refine wdstoreN C X1 f7_6 #[.val (.ref a), .val (.int (3 : Int32)), .val (.double px), .second, .unset, .unset, .unset, .unset, .unset, .unset] rfl ?_
  refine wdconst0 C X1 f7_7 ?_
  refine wdstore C X1 f7_8 #[.val (.ref a), .val (.int (3 : Int32)), .val (.double px), .second, .val (.double FP.dconst0), .second, .unset, .unset, .unset, .unset] rfl ?_
  refine wiconst C X1 f7_10 (0 : Int32) rfl ?_
  refine wistore C X1 f7_11 #[.val (.ref a), .val (.int (3 : Int32)), .val (.double px), .second, .val (.double FP.dconst0), .second, .val (.int (0 : Int32)), .unset, .unset, .unset] rfl ?_
  refine wiconst C X1 f7_13 (0 : Int32) rfl ?_
  refine wistore C X1 f7_14 #[.val (.ref a), .val (.int (3 : Int32)), .val (.double px), .second, .val (.double FP.dconst0), .second, .val (.int (0 : Int32)), .val (.int (0 : Int32)), .unset, .unset] rfl ?_
  refine waloadN C X1 f7_16 rfl rfl ?_
  refine wget C X1 (host := "") (Or.inl (tw_29 hw)) Via.refl e1 Fld_1 f7_17 ?_
  intro T2 X2 e2
  refine wiconst C X2 f7_20 (1 : Int32) rfl ?_
  refine wisub C X2 f7_21 ?_
  refine own_foldI (z := (3 : Int32)) (by decide) ?_
  refine wistore C X2 f7_22 #[.val (.ref a), .val (.int (3 : Int32)), .val (.double px), .second, .val (.double FP.dconst0), .second, .val (.int (0 : Int32)), .val (.int (0 : Int32)), .val (.int (3 : Int32)), .unset] rfl ?_
  refine wdload C X2 f7_24 rfl ?_
  refine waloadN C X2 f7_26 rfl rfl ?_
  refine wget C X2 (host := "") (Or.inl (tw_22 hw)) Via.refl e2 Fld_2 f7_27 ?_
  intro T3 X3 e3
  refine wiconst C X3 f7_30 (2 : Int32) rfl ?_
  refine wiload C X3 f7_31 rfl ?_
  refine wimul C X3 f7_33 ?_
  refine own_foldI (z := (0 : Int32)) (by decide) ?_
  refine wdaload C X3 e3 Arv_4 f7_34 ⟨by decide, by decide⟩ (i := 0) rfl (v := u0) gu0 ?_
  refine wdloadN C X3 f7_35 rfl ?_
  refine waloadN C X3 f7_36 rfl rfl ?_
  refine wget C X3 (host := "") (Or.inl (tw_22 hw)) Via.refl e3 Fld_2 f7_37 ?_
  intro T4 X4 e4
  refine wiconst C X4 f7_40 (2 : Int32) rfl ?_
  refine wiload C X4 f7_41 rfl ?_
  refine wimul C X4 f7_43 ?_
  refine own_foldI (z := (0 : Int32)) (by decide) ?_
  refine wiconst C X4 f7_44 (1 : Int32) rfl ?_
  refine wiadd C X4 f7_45 ?_
  refine own_foldI (z := (1 : Int32)) (by decide) ?_
  refine wdaload C X4 e4 Arv_4 f7_46 ⟨by decide, by decide⟩ (i := 1) rfl (v := v0) gv0 ?_
  refine wdadd C X4 f7_47 (v := (FP.dadd px v0)) rfl (own_H_nn (own_pd hx hl0)) ?_
  refine wdmul C X4 f7_48 (v := (FP.dmul u0 (FP.dadd px v0))) rfl (own_H_nn (own_lv hx hl0)) ?_
  refine wmaxD C X4 (tw_42 hw) (tw_43 hw) (tw_2 hw) (tw_44 hw) e4 f7_49 (own_H_nn own_H_0) (own_H_nn (own_lv hx hl0)) rfl (W := 0) (Nat.le_of_eq rfl) (by decide) (by decide) (by decide) (by decide) ?_
  intro T5 X5 e5
  refine wdstore C X5 f7_52 #[.val (.ref a), .val (.int (3 : Int32)), .val (.double px), .second, .val (.double (Jvm.Native.java_lang_Math.nans.pick64 true FP.dconst0 (FP.dmul u0 (FP.dadd px v0)))), .second, .val (.int (0 : Int32)), .val (.int (0 : Int32)), .val (.int (3 : Int32)), .unset] rfl ?_
  refine wiload C X5 f7_54 rfl ?_
  refine wiload C X5 f7_56 rfl ?_
  refine wicmp_ne C X5 f7_58 (fun q => absurd q (by decide : ¬ ((0 : Int32) = (3 : Int32)))) ?_
  intro _
  refine wiload C X5 f7_68 rfl ?_
  refine wiload C X5 f7_70 rfl ?_
  refine wiadd C X5 f7_72 ?_
  refine own_foldI (z := (3 : Int32)) (by decide) ?_
  refine wiconst C X5 f7_73 (1 : Int32) rfl ?_
  refine wiushr C X5 f7_74 ?_
  refine own_foldI (z := (1 : Int32)) (by decide) ?_
  refine wistore C X5 f7_75 #[.val (.ref a), .val (.int (3 : Int32)), .val (.double px), .second, .val (.double (Jvm.Native.java_lang_Math.nans.pick64 true FP.dconst0 (FP.dmul u0 (FP.dadd px v0)))), .second, .val (.int (0 : Int32)), .val (.int (0 : Int32)), .val (.int (3 : Int32)), .val (.int (1 : Int32))] rfl ?_
  refine wiloadN C X5 f7_77 rfl ?_
  refine wiload C X5 f7_78 rfl ?_
  refine wicmp_gt C X5 f7_80 ?_ (fun q => absurd (by decide : ((1 : Int32) < (3 : Int32))) q)
  intro _
  refine wiload C X5 f7_96 rfl ?_
  refine wiconst C X5 f7_98 (2 : Int32) rfl ?_
  refine wiload C X5 f7_99 rfl ?_
  refine wiload C X5 f7_101 rfl ?_
  refine wisub C X5 f7_103 ?_
  refine own_foldI (z := (1 : Int32)) (by decide) ?_
  refine wiconst C X5 f7_104 (1 : Int32) rfl ?_
  refine wiadd C X5 f7_105 ?_
  refine own_foldI (z := (2 : Int32)) (by decide) ?_
  refine wimul C X5 f7_106 ?_
  refine own_foldI (z := (4 : Int32)) (by decide) ?_
  refine wiadd C X5 f7_107 ?_
  refine own_foldI (z := (4 : Int32)) (by decide) ?_
  refine wistore C X5 f7_108 #[.val (.ref a), .val (.int (3 : Int32)), .val (.double px), .second, .val (.double (Jvm.Native.java_lang_Math.nans.pick64 true FP.dconst0 (FP.dmul u0 (FP.dadd px v0)))), .second, .val (.int (4 : Int32)), .val (.int (0 : Int32)), .val (.int (3 : Int32)), .val (.int (1 : Int32))] rfl ?_
  refine wiload C X5 f7_110 rfl ?_
  refine wiconst C X5 f7_112 (1 : Int32) rfl ?_
  refine wiadd C X5 f7_113 ?_
  refine own_foldI (z := (2 : Int32)) (by decide) ?_
  refine wistore C X5 f7_114 #[.val (.ref a), .val (.int (3 : Int32)), .val (.double px), .second, .val (.double (Jvm.Native.java_lang_Math.nans.pick64 true FP.dconst0 (FP.dmul u0 (FP.dadd px v0)))), .second, .val (.int (4 : Int32)), .val (.int (2 : Int32)), .val (.int (3 : Int32)), .val (.int (1 : Int32))] rfl ?_
  refine wgoto C X5 f7_116 ?_
  refine wdload C X5 f7_24 rfl ?_
  refine waloadN C X5 f7_26 rfl rfl ?_
  refine wget C X5 (host := "") (Or.inl (tw_22 hw)) Via.refl e5 Fld_2 f7_27 ?_
  intro T6 X6 e6
  refine wiconst C X6 f7_30 (2 : Int32) rfl ?_
  refine wiload C X6 f7_31 rfl ?_
  refine wimul C X6 f7_33 ?_
  refine own_foldI (z := (8 : Int32)) (by decide) ?_
  refine wdaload C X6 e6 Arv_4 f7_34 ⟨by decide, by decide⟩ (i := 8) rfl (v := u4) gu4 ?_
  refine wdloadN C X6 f7_35 rfl ?_
  refine waloadN C X6 f7_36 rfl rfl ?_
  refine wget C X6 (host := "") (Or.inl (tw_22 hw)) Via.refl e6 Fld_2 f7_37 ?_
  intro T7 X7 e7
  refine wiconst C X7 f7_40 (2 : Int32) rfl ?_
  refine wiload C X7 f7_41 rfl ?_
  refine wimul C X7 f7_43 ?_
  refine own_foldI (z := (8 : Int32)) (by decide) ?_
  refine wiconst C X7 f7_44 (1 : Int32) rfl ?_
  refine wiadd C X7 f7_45 ?_
  refine own_foldI (z := (9 : Int32)) (by decide) ?_
  refine wdaload C X7 e7 Arv_4 f7_46 ⟨by decide, by decide⟩ (i := 9) rfl (v := v4) gv4 ?_
  refine wdadd C X7 f7_47 (v := (FP.dadd px v4)) rfl (own_H_nn (own_pd hx hl4)) ?_
  refine wdmul C X7 f7_48 (v := (FP.dmul u4 (FP.dadd px v4))) rfl (own_H_nn (own_lv hx hl4)) ?_
  refine wmaxD C X7 (tw_42 hw) (tw_43 hw) (tw_2 hw) (tw_44 hw) e7 f7_49 (own_H_nn (own_H_max own_H_0 (own_lv hx hl0))) (own_H_nn (own_lv hx hl4)) rfl (W := 0) (Nat.le_of_eq rfl) (by decide) (by decide) (by decide) (by decide) ?_
  intro T8 X8 e8
  refine wdstore C X8 f7_52 #[.val (.ref a), .val (.int (3 : Int32)), .val (.double px), .second, .val (.double (Jvm.Native.java_lang_Math.nans.pick64 true (Jvm.Native.java_lang_Math.nans.pick64 true FP.dconst0 (FP.dmul u0 (FP.dadd px v0))) (FP.dmul u4 (FP.dadd px v4)))), .second, .val (.int (4 : Int32)), .val (.int (2 : Int32)), .val (.int (3 : Int32)), .val (.int (1 : Int32))] rfl ?_
  refine wiload C X8 f7_54 rfl ?_
  refine wiload C X8 f7_56 rfl ?_
  refine wicmp_ne C X8 f7_58 (fun q => absurd q (by decide : ¬ ((2 : Int32) = (3 : Int32)))) ?_
  intro _
  refine wiload C X8 f7_68 rfl ?_
  refine wiload C X8 f7_70 rfl ?_
  refine wiadd C X8 f7_72 ?_
  refine own_foldI (z := (5 : Int32)) (by decide) ?_
  refine wiconst C X8 f7_73 (1 : Int32) rfl ?_
  refine wiushr C X8 f7_74 ?_
  refine own_foldI (z := (2 : Int32)) (by decide) ?_
  refine wistore C X8 f7_75 #[.val (.ref a), .val (.int (3 : Int32)), .val (.double px), .second, .val (.double (Jvm.Native.java_lang_Math.nans.pick64 true (Jvm.Native.java_lang_Math.nans.pick64 true FP.dconst0 (FP.dmul u0 (FP.dadd px v0))) (FP.dmul u4 (FP.dadd px v4)))), .second, .val (.int (4 : Int32)), .val (.int (2 : Int32)), .val (.int (3 : Int32)), .val (.int (2 : Int32))] rfl ?_
  refine wiloadN C X8 f7_77 rfl ?_
  refine wiload C X8 f7_78 rfl ?_
  refine wicmp_gt C X8 f7_80 ?_ (fun q => absurd (by decide : ((2 : Int32) < (3 : Int32))) q)
  intro _
  refine wiload C X8 f7_96 rfl ?_
  refine wiconst C X8 f7_98 (2 : Int32) rfl ?_
  refine wiload C X8 f7_99 rfl ?_
  refine wiload C X8 f7_101 rfl ?_
  refine wisub C X8 f7_103 ?_
  refine own_foldI (z := (0 : Int32)) (by decide) ?_
  refine wiconst C X8 f7_104 (1 : Int32) rfl ?_
  refine wiadd C X8 f7_105 ?_
  refine own_foldI (z := (1 : Int32)) (by decide) ?_
  refine wimul C X8 f7_106 ?_
  refine own_foldI (z := (2 : Int32)) (by decide) ?_
  refine wiadd C X8 f7_107 ?_
  refine own_foldI (z := (6 : Int32)) (by decide) ?_
  refine wistore C X8 f7_108 #[.val (.ref a), .val (.int (3 : Int32)), .val (.double px), .second, .val (.double (Jvm.Native.java_lang_Math.nans.pick64 true (Jvm.Native.java_lang_Math.nans.pick64 true FP.dconst0 (FP.dmul u0 (FP.dadd px v0))) (FP.dmul u4 (FP.dadd px v4)))), .second, .val (.int (6 : Int32)), .val (.int (2 : Int32)), .val (.int (3 : Int32)), .val (.int (2 : Int32))] rfl ?_
  refine wiload C X8 f7_110 rfl ?_
  refine wiconst C X8 f7_112 (1 : Int32) rfl ?_
  refine wiadd C X8 f7_113 ?_
  refine own_foldI (z := (3 : Int32)) (by decide) ?_
  refine wistore C X8 f7_114 #[.val (.ref a), .val (.int (3 : Int32)), .val (.double px), .second, .val (.double (Jvm.Native.java_lang_Math.nans.pick64 true (Jvm.Native.java_lang_Math.nans.pick64 true FP.dconst0 (FP.dmul u0 (FP.dadd px v0))) (FP.dmul u4 (FP.dadd px v4)))), .second, .val (.int (6 : Int32)), .val (.int (3 : Int32)), .val (.int (3 : Int32)), .val (.int (2 : Int32))] rfl ?_
  refine wgoto C X8 f7_116 ?_
  refine wdload C X8 f7_24 rfl ?_
  refine waloadN C X8 f7_26 rfl rfl ?_
  refine wget C X8 (host := "") (Or.inl (tw_22 hw)) Via.refl e8 Fld_2 f7_27 ?_
  intro T9 X9 e9
  refine wiconst C X9 f7_30 (2 : Int32) rfl ?_
  refine wiload C X9 f7_31 rfl ?_
  refine wimul C X9 f7_33 ?_
  refine own_foldI (z := (12 : Int32)) (by decide) ?_
  refine wdaload C X9 e9 Arv_4 f7_34 ⟨by decide, by decide⟩ (i := 12) rfl (v := u6) gu6 ?_
  refine wdloadN C X9 f7_35 rfl ?_
  refine waloadN C X9 f7_36 rfl rfl ?_
  refine wget C X9 (host := "") (Or.inl (tw_22 hw)) Via.refl e9 Fld_2 f7_37 ?_
  intro T10 X10 e10
  refine wiconst C X10 f7_40 (2 : Int32) rfl ?_
  refine wiload C X10 f7_41 rfl ?_
  refine wimul C X10 f7_43 ?_
  refine own_foldI (z := (12 : Int32)) (by decide) ?_
  refine wiconst C X10 f7_44 (1 : Int32) rfl ?_
  refine wiadd C X10 f7_45 ?_
  refine own_foldI (z := (13 : Int32)) (by decide) ?_
  refine wdaload C X10 e10 Arv_4 f7_46 ⟨by decide, by decide⟩ (i := 13) rfl (v := v6) gv6 ?_
  refine wdadd C X10 f7_47 (v := (FP.dadd px v6)) rfl (own_H_nn (own_pd hx hl6)) ?_
  refine wdmul C X10 f7_48 (v := (FP.dmul u6 (FP.dadd px v6))) rfl (own_H_nn (own_lv hx hl6)) ?_
  refine wmaxD C X10 (tw_42 hw) (tw_43 hw) (tw_2 hw) (tw_44 hw) e10 f7_49 (own_H_nn (own_H_max (own_H_max own_H_0 (own_lv hx hl0)) (own_lv hx hl4))) (own_H_nn (own_lv hx hl6)) rfl (W := 0) (Nat.le_of_eq rfl) (by decide) (by decide) (by decide) (by decide) ?_
  intro T11 X11 e11
  refine wdstore C X11 f7_52 #[.val (.ref a), .val (.int (3 : Int32)), .val (.double px), .second, .val (.double (Jvm.Native.java_lang_Math.nans.pick64 true (Jvm.Native.java_lang_Math.nans.pick64 true (Jvm.Native.java_lang_Math.nans.pick64 true FP.dconst0 (FP.dmul u0 (FP.dadd px v0))) (FP.dmul u4 (FP.dadd px v4))) (FP.dmul u6 (FP.dadd px v6)))), .second, .val (.int (6 : Int32)), .val (.int (3 : Int32)), .val (.int (3 : Int32)), .val (.int (2 : Int32))] rfl ?_
  refine wiload C X11 f7_54 rfl ?_
  refine wiload C X11 f7_56 rfl ?_
  refine wicmp_ne C X11 f7_58 ?_ (fun q => absurd (by decide : ((3 : Int32) = (3 : Int32))) q)
  intro _
  refine wldc2D C X11 (tw_31 hw) f7_61 ?_
  refine wdload C X11 f7_64 rfl ?_
  refine wdmul C X11 f7_66 (v := (FP.dmul (4611686018427387904 : UInt64) (Jvm.Native.java_lang_Math.nans.pick64 true (Jvm.Native.java_lang_Math.nans.pick64 true (Jvm.Native.java_lang_Math.nans.pick64 true FP.dconst0 (FP.dmul u0 (FP.dadd px v0))) (FP.dmul u4 (FP.dadd px v4))) (FP.dmul u6 (FP.dadd px v6))))) rfl (own_nn (own_H_dbl (own_H_max (own_H_max (own_H_max own_H_0 (own_lv hx hl0)) (own_lv hx hl4)) (own_lv hx hl6)) (by have z0 := own_lvb hx hl0; have z4 := own_lvb hx hl4; have z6 := own_lvb hx hl6; omega))) ?_
  refine wdret C X11 f7_67 rfl (by decide) (by decide) ?_
  rw [e11]
  exact ⟨(FP.dmul (4611686018427387904 : UInt64) (Jvm.Native.java_lang_Math.nans.pick64 true (Jvm.Native.java_lang_Math.nans.pick64 true (Jvm.Native.java_lang_Math.nans.pick64 true FP.dconst0 (FP.dmul u0 (FP.dadd px v0))) (FP.dmul u4 (FP.dadd px v4))) (FP.dmul u6 (FP.dadd px v6)))), rfl, N0, rfl, (by have z0 := own_lvb hx hl0; have z4 := own_lvb hx hl4; have z6 := own_lvb hx hl6; simp only [own_pm]; exact own_di (own_H_dbl (own_H_max (own_H_max (own_H_max own_H_0 (own_lv hx hl0)) (own_lv hx hl4)) (own_lv hx hl6)) (by omega)) (by simp; omega))⟩
theorem c_lt0 (u v : Int64) : lcmpW u v < (0 : Int32) ↔ u.toInt < v.toInt := by
  have h := c_lcmp u v
  rw [Int32.lt_iff_toInt_lt, show (0 : Int32).toInt = 0 by decide]
  omega
section Law
theorem own_msk (z : Int32) : 0 ≤ (z &&& (1023 : Int32)).toInt64.toInt ∧ (z &&& (1023 : Int32)).toInt64.toInt ≤ 1023 := by
  have h := c_and z 1023 (by decide)
  rw [c_i2l]
  rwa [show (1023 : Int32).toInt = 1023 by decide] at h
theorem own_msk1 (z : Int32) : 1 ≤ ((1 : Int32) + (z &&& (1023 : Int32))).toInt64.toInt ∧ ((1 : Int32) + (z &&& (1023 : Int32))).toInt64.toInt ≤ 1024 := by
  have h := c_and z 1023 (by decide)
  have h2 := c_iadd (1 : Int32) (z &&& (1023 : Int32))
  have r := rng32 ((1 : Int32) + (z &&& (1023 : Int32)))
  rw [c_i2l]
  rw [show (1023 : Int32).toInt = 1023 by decide] at h
  rw [show (1 : Int32).toInt = 1 by decide] at h2
  omega
theorem own_msk3 (z : Int32) : 0 ≤ (z &&& (3 : Int32)).toInt ∧ (z &&& (3 : Int32)).toInt ≤ 3 := by
  have h := c_and z 3 (by decide)
  rwa [show (3 : Int32).toInt = 3 by decide] at h
theorem own_pp {u v : Int64} {B : Int} (hu : 0 ≤ u.toInt ∧ u.toInt ≤ B) (hv : 0 ≤ v.toInt ∧ v.toInt ≤ 1023) (hB : B ≤ 100000) : (u + (1 : Int64) + v).toInt = u.toInt + 1 + v.toInt ∧ 0 ≤ (u + (1 : Int64) + v).toInt ∧ (u + (1 : Int64) + v).toInt ≤ B + 1024 := by
  have h1 := c_ladd u (1 : Int64)
  have h2 := c_ladd (u + (1 : Int64)) v
  have r1 := rng64 (u + (1 : Int64))
  have r2 := rng64 (u + (1 : Int64) + v)
  rw [show (1 : Int64).toInt = 1 by decide] at h1
  omega
theorem own_ct {kk g : Int32} (hk : 0 ≤ kk.toInt ∧ kk.toInt ≤ 3) (hg : 0 ≤ g.toInt ∧ g.toInt ≤ 3) : kk.toInt < (R1 (4 : Int32) ((kk + (1 : Int32)) + g)).toInt ∧ (R1 (4 : Int32) ((kk + (1 : Int32)) + g)).toInt ≤ 4 := by
  have h1 := c_iadd kk (1 : Int32)
  have h2 := c_iadd (kk + (1 : Int32)) g
  have r1 := rng32 (kk + (1 : Int32))
  have r2 := rng32 (kk + (1 : Int32) + g)
  rw [show (1 : Int32).toInt = 1 by decide] at h1
  unfold R1
  split
  · rename_i q; rw [Int32.lt_iff_toInt_lt, show (4 : Int32).toInt = 4 by decide] at q; omega
  · rw [show (4 : Int32).toInt = 4 by decide]; omega
theorem own_i0 {k : Int32} {n : Int} (z : Int32) (hz : z.toInt = n) (h : k.toInt = n) : k = z := Int32.toInt_inj.mp (h.trans hz.symm)
theorem own_k3 {kk : Int32} (hk : 0 ≤ kk.toInt ∧ kk.toInt ≤ 3) (h0 : ¬ kk = 0) (h1 : ¬ kk = 1) (h2 : ¬ kk = 2) : kk = 3 := by
  have e0 : kk.toInt ≠ 0 := fun q => h0 (own_i0 0 (by decide) q)
  have e1 : kk.toInt ≠ 1 := fun q => h1 (own_i0 1 (by decide) q)
  have e2 : kk.toInt ≠ 2 := fun q => h2 (own_i0 2 (by decide) q)
  exact own_i0 (n := 3) 3 (by decide) (by omega)
theorem own_split {kk ct : Int32} (hk : 0 ≤ kk.toInt ∧ kk.toInt ≤ 3) (hc : kk.toInt < ct.toInt ∧ ct.toInt ≤ 4) : (kk = 0 ∧ ct = 1) ∨ (kk = 0 ∧ ct = 2) ∨ (kk = 1 ∧ ct = 2) ∨ (kk = 0 ∧ ct = 3) ∨ (kk = 1 ∧ ct = 3) ∨ (kk = 2 ∧ ct = 3) ∨ (kk = 0 ∧ ct = 4) ∨ (kk = 1 ∧ ct = 4) ∨ (kk = 2 ∧ ct = 4) ∨ (kk = 3 ∧ ct = 4) := by
  have a0 : kk.toInt = 0 → kk = 0 := own_i0 0 (by decide)
  have a1 : kk.toInt = 1 → kk = 1 := own_i0 1 (by decide)
  have a2 : kk.toInt = 2 → kk = 2 := own_i0 2 (by decide)
  have a3 : kk.toInt = 3 → kk = 3 := own_i0 3 (by decide)
  have b1 : ct.toInt = 1 → ct = 1 := own_i0 1 (by decide)
  have b2 : ct.toInt = 2 → ct = 2 := own_i0 2 (by decide)
  have b3 : ct.toInt = 3 → ct = 3 := own_i0 3 (by decide)
  have b4 : ct.toInt = 4 → ct = 4 := own_i0 4 (by decide)
  rcases (by omega : (kk.toInt = 0 ∧ ct.toInt = 1) ∨ (kk.toInt = 0 ∧ ct.toInt = 2) ∨ (kk.toInt = 1 ∧ ct.toInt = 2) ∨ (kk.toInt = 0 ∧ ct.toInt = 3) ∨ (kk.toInt = 1 ∧ ct.toInt = 3) ∨ (kk.toInt = 2 ∧ ct.toInt = 3) ∨ (kk.toInt = 0 ∧ ct.toInt = 4) ∨ (kk.toInt = 1 ∧ ct.toInt = 4) ∨ (kk.toInt = 2 ∧ ct.toInt = 4) ∨ (kk.toInt = 3 ∧ ct.toInt = 4)) with h | h | h | h | h | h | h | h | h | h
  · exact Or.inl ⟨a0 h.1, b1 h.2⟩
  · exact Or.inr (Or.inl ⟨a0 h.1, b2 h.2⟩)
  · exact Or.inr (Or.inr (Or.inl ⟨a1 h.1, b2 h.2⟩))
  · exact Or.inr (Or.inr (Or.inr (Or.inl ⟨a0 h.1, b3 h.2⟩)))
  · exact Or.inr (Or.inr (Or.inr (Or.inr (Or.inl ⟨a1 h.1, b3 h.2⟩))))
  · exact Or.inr (Or.inr (Or.inr (Or.inr (Or.inr (Or.inl ⟨a2 h.1, b3 h.2⟩)))))
  · exact Or.inr (Or.inr (Or.inr (Or.inr (Or.inr (Or.inr (Or.inl ⟨a0 h.1, b4 h.2⟩))))))
  · exact Or.inr (Or.inr (Or.inr (Or.inr (Or.inr (Or.inr (Or.inr (Or.inl ⟨a1 h.1, b4 h.2⟩)))))))
  · exact Or.inr (Or.inr (Or.inr (Or.inr (Or.inr (Or.inr (Or.inr (Or.inr (Or.inl ⟨a2 h.1, b4 h.2⟩))))))))
  · exact Or.inr (Or.inr (Or.inr (Or.inr (Or.inr (Or.inr (Or.inr (Or.inr (Or.inr ⟨a3 h.1, b4 h.2⟩))))))))
theorem own_mulb {w q d : Int64} (hw : 1 ≤ w.toInt ∧ w.toInt ≤ 1024) (hq : 0 ≤ q.toInt ∧ q.toInt ≤ 65536) (hd : 0 ≤ d.toInt ∧ d.toInt ≤ 1023) : (w * (q + d)).toInt = w.toInt * (q.toInt + d.toInt) ∧ 0 ≤ w.toInt * (q.toInt + d.toInt) ∧ w.toInt * (q.toInt + d.toInt) ≤ 100000000 := by
  have h1 := c_ladd q d
  have r1 := rng64 (q + d)
  have e : (q + d).toInt = q.toInt + d.toInt := by omega
  have h2 := c_lmul w (q + d)
  have r2 := rng64 (w * (q + d))
  rw [e] at h2
  have m := mc (a := w.toInt) (b := q.toInt + d.toInt) (l1 := 1) (h1 := 1024) (l2 := 0) (h2 := 66559) (by omega) (by omega) (by omega) (by omega)
  omega
theorem own_ex {u v : Int64} : (R2 u v).toInt = max u.toInt v.toInt := by
  unfold R2
  split
  · rename_i q; rw [c_lt0] at q; omega
  · rename_i q; rw [c_lt0] at q; omega
end Law
def own_P4 (p0 p1 p2 p3 : Int) : Nat → Int := fun i => if i = 0 then p0 else if i = 1 then p1 else if i = 2 then p2 else p3
theorem own_mono4 {p0 p1 p2 p3 : Int} {k : Nat} (hk : k ≤ 4) (h1 : p0 ≤ p1) (h2 : p1 ≤ p2) (h3 : p2 ≤ p3) : ∀ i j, i ≤ j → j < k → own_P4 p0 p1 p2 p3 i ≤ own_P4 p0 p1 p2 p3 j := by
  intro i j hij hj
  have hi : i = 0 ∨ i = 1 ∨ i = 2 ∨ i = 3 := by omega
  have hj' : j = 0 ∨ j = 1 ∨ j = 2 ∨ j = 3 := by omega
  rcases hi with rfl | rfl | rfl | rfl <;> rcases hj' with rfl | rfl | rfl | rfl <;> first | omega | (simp [own_P4]; omega)
theorem own_Ps4 {p0 p1 p2 p3 : Int} {u0 u1 u2 u3 : UInt64} {k : Nat} (hk : k ≤ 4) (h0 : 0 < k → own_P p0 u0) (h1 : 1 < k → own_P p1 u1) (h2 : 2 < k → own_P p2 u2) (h3 : 3 < k → own_P p3 u3) : own_Ps [.double u0, .double u1, .double u2, .double u3] (own_P4 p0 p1 p2 p3) k := by
  refine ⟨rfl, fun i hi => ?_⟩
  have hi' : i = 0 ∨ i = 1 ∨ i = 2 ∨ i = 3 := by omega
  rcases hi' with rfl | rfl | rfl | rfl
  · exact ⟨_, rfl, h0 hi⟩
  · exact ⟨_, rfl, h1 hi⟩
  · exact ⟨_, rfl, h2 hi⟩
  · exact ⟨_, rfl, h3 hi⟩
theorem own_fin {x0 x1 x2 a b e : Int} (h1 : x1 = max x0 a) (h2 : x2 = max x1 b) (h0 : x0 = 0) (ha : 0 ≤ a) (he : e = max a b) : x2 = e := by omega
theorem own_L0 : own_L 0 0 0 0 := ⟨own_i2d 0, own_H_0, by decide, by decide, by decide, by decide⟩
theorem own_Ls0 : own_Ls [(.double (0 : UInt64)), (.double (0 : UInt64)), (.double (0 : UInt64)), (.double (0 : UInt64)), (.double (0 : UInt64)), (.double (0 : UInt64)), (.double (0 : UInt64)), (.double (0 : UInt64)), (.double (0 : UInt64)), (.double (0 : UInt64)), (.double (0 : UInt64)), (.double (0 : UInt64)), (.double (0 : UInt64)), (.double (0 : UInt64))] (fun _ => 0) (fun _ => 0) := by
  refine ⟨rfl, fun j hj => ⟨0, 0, ?_, ?_, own_L0⟩⟩
  all_goals
    have hj' : j = 0 ∨ j = 1 ∨ j = 2 ∨ j = 3 ∨ j = 4 ∨ j = 5 ∨ j = 6 := by omega
    rcases hj' with rfl | rfl | rfl | rfl | rfl | rfl | rfl <;> rfl
theorem own_dcz : own_L 0 0 FP.dconst0 FP.dconst0 := own_L0
theorem own_Lz (j : Nat) {a b : Nat} {ls : List Value} {W D : Nat → Int} (h : own_Ls ls W D) (hj : j < 7) (ha : a = 2 * j) (hb : b = 2 * j + 1) : own_Ls ((ls.set a (.double FP.dconst0)).set b (.double FP.dconst0)) (own_upd W j 0) (own_upd D j 0) := by
  subst ha hb; exact own_Ls_set h hj own_dcz
theorem own_c (n : Int32) (u : UInt64) (i : Int) (h1 : FP.i2d n = u) (h2 : n.toInt = i) : FP.Core.DInt i u := by subst h1 h2; exact own_i2d n
theorem own_hv {q : Int} {t : UInt64} (h : FP.Core.DInt q t) (h1 : 0 ≤ q) (h2 : q ≤ 65536) : own_P q (FP.ddiv t 4611686018427387904) := ⟨own_H_div h (by omega), h1, h2⟩
theorem own_l2p {u : Int64} {B : Int} (h : 0 ≤ u.toInt ∧ u.toInt ≤ B) (hB : B ≤ 65536) : own_P u.toInt (FP.ddiv (FP.l2d u) 4611686018427387904) := own_hv (own_l2d (by omega)) h.1 (by omega)
theorem own_wd {w d : Int64} (hw : 1 ≤ w.toInt ∧ w.toInt ≤ 1024) (hd : 0 ≤ d.toInt ∧ d.toInt ≤ 1023) : FP.Core.DInt w.toInt (FP.l2d w) ∧ FP.Core.DInt d.toInt (FP.l2d d) ∧ 0 ≤ w.toInt ∧ w.toInt ≤ 65536 ∧ 0 ≤ d.toInt ∧ d.toInt ≤ 32768 := ⟨own_l2d (by omega), own_l2d (by omega), by omega, by omega, by omega, by omega⟩
theorem f0_0 : Dec code 0 (.iload_n 0) 1 1 := ⟨by decide +kernel, rfl⟩
theorem f0_1 : Dec code 1 (.sipush 1023) 3 4 := ⟨by decide +kernel, rfl⟩
theorem f0_4 : Dec code 4 (.iand) 1 5 := ⟨by decide +kernel, rfl⟩
theorem f0_5 : Dec code 5 (.i2l) 1 6 := ⟨by decide +kernel, rfl⟩
theorem f0_6 : Dec code 6 (.lstore 4) 2 8 := ⟨by decide +kernel, rfl⟩
theorem f0_8 : Dec code 8 (.lload 4) 2 10 := ⟨by decide +kernel, rfl⟩
theorem f0_10 : Dec code 10 (.lconst 1) 1 11 := ⟨by decide +kernel, rfl⟩
theorem f0_11 : Dec code 11 (.ladd) 1 12 := ⟨by decide +kernel, rfl⟩
theorem f0_12 : Dec code 12 (.iload_n 0) 1 13 := ⟨by decide +kernel, rfl⟩
theorem f0_13 : Dec code 13 (.bipush 10) 2 15 := ⟨by decide +kernel, rfl⟩
theorem f0_15 : Dec code 15 (.iushr) 1 16 := ⟨by decide +kernel, rfl⟩
theorem f0_16 : Dec code 16 (.sipush 1023) 3 19 := ⟨by decide +kernel, rfl⟩
theorem f0_19 : Dec code 19 (.iand) 1 20 := ⟨by decide +kernel, rfl⟩
theorem f0_20 : Dec code 20 (.i2l) 1 21 := ⟨by decide +kernel, rfl⟩
theorem f0_21 : Dec code 21 (.ladd) 1 22 := ⟨by decide +kernel, rfl⟩
theorem f0_22 : Dec code 22 (.lstore 6) 2 24 := ⟨by decide +kernel, rfl⟩
theorem f0_24 : Dec code 24 (.lload 6) 2 26 := ⟨by decide +kernel, rfl⟩
theorem f0_26 : Dec code 26 (.lconst 1) 1 27 := ⟨by decide +kernel, rfl⟩
theorem f0_27 : Dec code 27 (.ladd) 1 28 := ⟨by decide +kernel, rfl⟩
theorem f0_28 : Dec code 28 (.iload_n 0) 1 29 := ⟨by decide +kernel, rfl⟩
theorem f0_29 : Dec code 29 (.bipush 20) 2 31 := ⟨by decide +kernel, rfl⟩
theorem f0_31 : Dec code 31 (.iushr) 1 32 := ⟨by decide +kernel, rfl⟩
theorem f0_32 : Dec code 32 (.sipush 1023) 3 35 := ⟨by decide +kernel, rfl⟩
theorem f0_35 : Dec code 35 (.iand) 1 36 := ⟨by decide +kernel, rfl⟩
theorem f0_36 : Dec code 36 (.i2l) 1 37 := ⟨by decide +kernel, rfl⟩
theorem f0_37 : Dec code 37 (.ladd) 1 38 := ⟨by decide +kernel, rfl⟩
theorem f0_38 : Dec code 38 (.lstore 8) 2 40 := ⟨by decide +kernel, rfl⟩
theorem f0_40 : Dec code 40 (.lload 8) 2 42 := ⟨by decide +kernel, rfl⟩
theorem f0_42 : Dec code 42 (.lconst 1) 1 43 := ⟨by decide +kernel, rfl⟩
theorem f0_43 : Dec code 43 (.ladd) 1 44 := ⟨by decide +kernel, rfl⟩
theorem f0_44 : Dec code 44 (.iload_n 1) 1 45 := ⟨by decide +kernel, rfl⟩
theorem f0_45 : Dec code 45 (.sipush 1023) 3 48 := ⟨by decide +kernel, rfl⟩
theorem f0_48 : Dec code 48 (.iand) 1 49 := ⟨by decide +kernel, rfl⟩
theorem f0_49 : Dec code 49 (.i2l) 1 50 := ⟨by decide +kernel, rfl⟩
theorem f0_50 : Dec code 50 (.ladd) 1 51 := ⟨by decide +kernel, rfl⟩
theorem f0_51 : Dec code 51 (.lstore 10) 2 53 := ⟨by decide +kernel, rfl⟩
theorem f0_53 : Dec code 53 (.iload_n 1) 1 54 := ⟨by decide +kernel, rfl⟩
theorem f0_54 : Dec code 54 (.bipush 10) 2 56 := ⟨by decide +kernel, rfl⟩
theorem f0_56 : Dec code 56 (.iushr) 1 57 := ⟨by decide +kernel, rfl⟩
theorem f0_57 : Dec code 57 (.iconst 3) 1 58 := ⟨by decide +kernel, rfl⟩
theorem f0_58 : Dec code 58 (.iand) 1 59 := ⟨by decide +kernel, rfl⟩
theorem f0_59 : Dec code 59 (.istore 12) 2 61 := ⟨by decide +kernel, rfl⟩
theorem f0_61 : Dec code 61 (.iconst 4) 1 62 := ⟨by decide +kernel, rfl⟩
theorem f0_62 : Dec code 62 (.iload 12) 2 64 := ⟨by decide +kernel, rfl⟩
theorem f0_64 : Dec code 64 (.iconst 1) 1 65 := ⟨by decide +kernel, rfl⟩
theorem f0_65 : Dec code 65 (.iadd) 1 66 := ⟨by decide +kernel, rfl⟩
theorem f0_66 : Dec code 66 (.iload_n 1) 1 67 := ⟨by decide +kernel, rfl⟩
theorem f0_67 : Dec code 67 (.bipush 12) 2 69 := ⟨by decide +kernel, rfl⟩
theorem f0_69 : Dec code 69 (.iushr) 1 70 := ⟨by decide +kernel, rfl⟩
theorem f0_70 : Dec code 70 (.iconst 3) 1 71 := ⟨by decide +kernel, rfl⟩
theorem f0_71 : Dec code 71 (.iand) 1 72 := ⟨by decide +kernel, rfl⟩
theorem f0_72 : Dec code 72 (.iadd) 1 73 := ⟨by decide +kernel, rfl⟩
theorem f0_73 : Dec code 73 (.invokestatic 7) 3 76 := ⟨by decide +kernel, rfl⟩
theorem f0_76 : Dec code 76 (.istore 13) 2 78 := ⟨by decide +kernel, rfl⟩
theorem f0_78 : Dec code 78 (.iconst 1) 1 79 := ⟨by decide +kernel, rfl⟩
theorem f0_79 : Dec code 79 (.iload_n 2) 1 80 := ⟨by decide +kernel, rfl⟩
theorem f0_80 : Dec code 80 (.sipush 1023) 3 83 := ⟨by decide +kernel, rfl⟩
theorem f0_83 : Dec code 83 (.iand) 1 84 := ⟨by decide +kernel, rfl⟩
theorem f0_84 : Dec code 84 (.iadd) 1 85 := ⟨by decide +kernel, rfl⟩
theorem f0_85 : Dec code 85 (.i2l) 1 86 := ⟨by decide +kernel, rfl⟩
theorem f0_86 : Dec code 86 (.lstore 14) 2 88 := ⟨by decide +kernel, rfl⟩
theorem f0_88 : Dec code 88 (.iload_n 2) 1 89 := ⟨by decide +kernel, rfl⟩
theorem f0_89 : Dec code 89 (.bipush 10) 2 91 := ⟨by decide +kernel, rfl⟩
theorem f0_91 : Dec code 91 (.iushr) 1 92 := ⟨by decide +kernel, rfl⟩
theorem f0_92 : Dec code 92 (.sipush 1023) 3 95 := ⟨by decide +kernel, rfl⟩
theorem f0_95 : Dec code 95 (.iand) 1 96 := ⟨by decide +kernel, rfl⟩
theorem f0_96 : Dec code 96 (.i2l) 1 97 := ⟨by decide +kernel, rfl⟩
theorem f0_97 : Dec code 97 (.lstore 16) 2 99 := ⟨by decide +kernel, rfl⟩
theorem f0_99 : Dec code 99 (.iconst 1) 1 100 := ⟨by decide +kernel, rfl⟩
theorem f0_100 : Dec code 100 (.iload_n 3) 1 101 := ⟨by decide +kernel, rfl⟩
theorem f0_101 : Dec code 101 (.sipush 1023) 3 104 := ⟨by decide +kernel, rfl⟩
theorem f0_104 : Dec code 104 (.iand) 1 105 := ⟨by decide +kernel, rfl⟩
theorem f0_105 : Dec code 105 (.iadd) 1 106 := ⟨by decide +kernel, rfl⟩
theorem f0_106 : Dec code 106 (.i2l) 1 107 := ⟨by decide +kernel, rfl⟩
theorem f0_107 : Dec code 107 (.lstore 18) 2 109 := ⟨by decide +kernel, rfl⟩
theorem f0_109 : Dec code 109 (.iload_n 3) 1 110 := ⟨by decide +kernel, rfl⟩
theorem f0_110 : Dec code 110 (.bipush 10) 2 112 := ⟨by decide +kernel, rfl⟩
theorem f0_112 : Dec code 112 (.iushr) 1 113 := ⟨by decide +kernel, rfl⟩
theorem f0_113 : Dec code 113 (.sipush 1023) 3 116 := ⟨by decide +kernel, rfl⟩
theorem f0_116 : Dec code 116 (.iand) 1 117 := ⟨by decide +kernel, rfl⟩
theorem f0_117 : Dec code 117 (.i2l) 1 118 := ⟨by decide +kernel, rfl⟩
theorem f0_118 : Dec code 118 (.lstore 20) 2 120 := ⟨by decide +kernel, rfl⟩
theorem f0_120 : Dec code 120 (.iconst 4) 1 121 := ⟨by decide +kernel, rfl⟩
theorem f0_121 : Dec code 121 (.newarray .double) 2 123 := ⟨by decide +kernel, rfl⟩
theorem f0_123 : Dec code 123 (.astore 22) 2 125 := ⟨by decide +kernel, rfl⟩
theorem f0_125 : Dec code 125 (.aload 22) 2 127 := ⟨by decide +kernel, rfl⟩
theorem f0_127 : Dec code 127 (.iconst 0) 1 128 := ⟨by decide +kernel, rfl⟩
theorem f0_128 : Dec code 128 (.dconst 0) 1 129 := ⟨by decide +kernel, rfl⟩
theorem f0_129 : Dec code 129 (.dastore) 1 130 := ⟨by decide +kernel, rfl⟩
theorem f0_130 : Dec code 130 (.aload 22) 2 132 := ⟨by decide +kernel, rfl⟩
theorem f0_132 : Dec code 132 (.iconst 1) 1 133 := ⟨by decide +kernel, rfl⟩
theorem f0_133 : Dec code 133 (.ldc2_w 13) 3 136 := ⟨by decide +kernel, rfl⟩
theorem f0_136 : Dec code 136 (.dastore) 1 137 := ⟨by decide +kernel, rfl⟩
theorem f0_137 : Dec code 137 (.aload 22) 2 139 := ⟨by decide +kernel, rfl⟩
theorem f0_139 : Dec code 139 (.iconst 2) 1 140 := ⟨by decide +kernel, rfl⟩
theorem f0_140 : Dec code 140 (.ldc2_w 15) 3 143 := ⟨by decide +kernel, rfl⟩
theorem f0_143 : Dec code 143 (.dastore) 1 144 := ⟨by decide +kernel, rfl⟩
theorem f0_144 : Dec code 144 (.aload 22) 2 146 := ⟨by decide +kernel, rfl⟩
theorem f0_146 : Dec code 146 (.iconst 3) 1 147 := ⟨by decide +kernel, rfl⟩
theorem f0_147 : Dec code 147 (.ldc2_w 17) 3 150 := ⟨by decide +kernel, rfl⟩
theorem f0_150 : Dec code 150 (.dastore) 1 151 := ⟨by decide +kernel, rfl⟩
theorem f0_151 : Dec code 151 (.iconst 4) 1 152 := ⟨by decide +kernel, rfl⟩
theorem f0_152 : Dec code 152 (.newarray .double) 2 154 := ⟨by decide +kernel, rfl⟩
theorem f0_154 : Dec code 154 (.astore 23) 2 156 := ⟨by decide +kernel, rfl⟩
theorem f0_156 : Dec code 156 (.aload 23) 2 158 := ⟨by decide +kernel, rfl⟩
theorem f0_158 : Dec code 158 (.iconst 0) 1 159 := ⟨by decide +kernel, rfl⟩
theorem f0_159 : Dec code 159 (.lload 4) 2 161 := ⟨by decide +kernel, rfl⟩
theorem f0_161 : Dec code 161 (.l2d) 1 162 := ⟨by decide +kernel, rfl⟩
theorem f0_162 : Dec code 162 (.dastore) 1 163 := ⟨by decide +kernel, rfl⟩
theorem f0_163 : Dec code 163 (.aload 23) 2 165 := ⟨by decide +kernel, rfl⟩
theorem f0_165 : Dec code 165 (.iconst 1) 1 166 := ⟨by decide +kernel, rfl⟩
theorem f0_166 : Dec code 166 (.lload 6) 2 168 := ⟨by decide +kernel, rfl⟩
theorem f0_168 : Dec code 168 (.l2d) 1 169 := ⟨by decide +kernel, rfl⟩
theorem f0_169 : Dec code 169 (.dastore) 1 170 := ⟨by decide +kernel, rfl⟩
theorem f0_170 : Dec code 170 (.aload 23) 2 172 := ⟨by decide +kernel, rfl⟩
theorem f0_172 : Dec code 172 (.iconst 2) 1 173 := ⟨by decide +kernel, rfl⟩
theorem f0_173 : Dec code 173 (.lload 8) 2 175 := ⟨by decide +kernel, rfl⟩
theorem f0_175 : Dec code 175 (.l2d) 1 176 := ⟨by decide +kernel, rfl⟩
theorem f0_176 : Dec code 176 (.dastore) 1 177 := ⟨by decide +kernel, rfl⟩
theorem f0_177 : Dec code 177 (.aload 23) 2 179 := ⟨by decide +kernel, rfl⟩
theorem f0_179 : Dec code 179 (.iconst 3) 1 180 := ⟨by decide +kernel, rfl⟩
theorem f0_180 : Dec code 180 (.lload 10) 2 182 := ⟨by decide +kernel, rfl⟩
theorem f0_182 : Dec code 182 (.l2d) 1 183 := ⟨by decide +kernel, rfl⟩
theorem f0_183 : Dec code 183 (.dastore) 1 184 := ⟨by decide +kernel, rfl⟩
theorem f0_184 : Dec code 184 (.iload 12) 2 186 := ⟨by decide +kernel, rfl⟩
theorem f0_186 : DecJ code 186 (.ifCond .ne 8) 8 194 189 := ⟨by decide +kernel, by decide, by decide, rfl⟩
theorem f0_189 : Dec code 189 (.lload 4) 2 191 := ⟨by decide +kernel, rfl⟩
theorem f0_191 : DecJ code 191 (.goto 27) 27 218 194 := ⟨by decide +kernel, by decide, by decide, rfl⟩
theorem f0_194 : Dec code 194 (.iload 12) 2 196 := ⟨by decide +kernel, rfl⟩
theorem f0_196 : Dec code 196 (.iconst 1) 1 197 := ⟨by decide +kernel, rfl⟩
theorem f0_197 : DecJ code 197 (.if_icmp .ne 8) 8 205 200 := ⟨by decide +kernel, by decide, by decide, rfl⟩
theorem f0_200 : Dec code 200 (.lload 6) 2 202 := ⟨by decide +kernel, rfl⟩
theorem f0_202 : DecJ code 202 (.goto 16) 16 218 205 := ⟨by decide +kernel, by decide, by decide, rfl⟩
theorem f0_205 : Dec code 205 (.iload 12) 2 207 := ⟨by decide +kernel, rfl⟩
theorem f0_207 : Dec code 207 (.iconst 2) 1 208 := ⟨by decide +kernel, rfl⟩
theorem f0_208 : DecJ code 208 (.if_icmp .ne 8) 8 216 211 := ⟨by decide +kernel, by decide, by decide, rfl⟩
theorem f0_211 : Dec code 211 (.lload 8) 2 213 := ⟨by decide +kernel, rfl⟩
theorem f0_213 : DecJ code 213 (.goto 5) 5 218 216 := ⟨by decide +kernel, by decide, by decide, rfl⟩
theorem f0_216 : Dec code 216 (.lload 10) 2 218 := ⟨by decide +kernel, rfl⟩
theorem f0_218 : Dec code 218 (.lstore 24) 2 220 := ⟨by decide +kernel, rfl⟩
theorem f0_220 : Dec code 220 (.lload 14) 2 222 := ⟨by decide +kernel, rfl⟩
theorem f0_222 : Dec code 222 (.lload 24) 2 224 := ⟨by decide +kernel, rfl⟩
theorem f0_224 : Dec code 224 (.lload 16) 2 226 := ⟨by decide +kernel, rfl⟩
theorem f0_226 : Dec code 226 (.ladd) 1 227 := ⟨by decide +kernel, rfl⟩
theorem f0_227 : Dec code 227 (.lmul) 1 228 := ⟨by decide +kernel, rfl⟩
theorem f0_228 : Dec code 228 (.lload 18) 2 230 := ⟨by decide +kernel, rfl⟩
theorem f0_230 : Dec code 230 (.lload 24) 2 232 := ⟨by decide +kernel, rfl⟩
theorem f0_232 : Dec code 232 (.lload 20) 2 234 := ⟨by decide +kernel, rfl⟩
theorem f0_234 : Dec code 234 (.ladd) 1 235 := ⟨by decide +kernel, rfl⟩
theorem f0_235 : Dec code 235 (.lmul) 1 236 := ⟨by decide +kernel, rfl⟩
theorem f0_236 : Dec code 236 (.invokestatic 19) 3 239 := ⟨by decide +kernel, rfl⟩
theorem f0_239 : Dec code 239 (.lstore 26) 2 241 := ⟨by decide +kernel, rfl⟩
theorem f0_241 : Dec code 241 (.new 23) 3 244 := ⟨by decide +kernel, rfl⟩
theorem f0_244 : Dec code 244 (.dup) 1 245 := ⟨by decide +kernel, rfl⟩
theorem f0_245 : Dec code 245 (.iconst 4) 1 246 := ⟨by decide +kernel, rfl⟩
theorem f0_246 : Dec code 246 (.invokespecial 25) 3 249 := ⟨by decide +kernel, rfl⟩
theorem f0_249 : Dec code 249 (.astore 28) 2 251 := ⟨by decide +kernel, rfl⟩
theorem f0_251 : Dec code 251 (.aload 28) 2 253 := ⟨by decide +kernel, rfl⟩
theorem f0_253 : Dec code 253 (.aload 22) 2 255 := ⟨by decide +kernel, rfl⟩
theorem f0_255 : Dec code 255 (.iconst 4) 1 256 := ⟨by decide +kernel, rfl⟩
theorem f0_256 : Dec code 256 (.invokevirtual 28) 3 259 := ⟨by decide +kernel, rfl⟩
theorem f0_259 : Dec code 259 (.aload 28) 2 261 := ⟨by decide +kernel, rfl⟩
theorem f0_261 : Dec code 261 (.dconst 1) 1 262 := ⟨by decide +kernel, rfl⟩
theorem f0_262 : Dec code 262 (.ldc2_w 17) 3 265 := ⟨by decide +kernel, rfl⟩
theorem f0_265 : Dec code 265 (.invokevirtual 32) 3 268 := ⟨by decide +kernel, rfl⟩
theorem f0_268 : Dec code 268 (.aload 28) 2 270 := ⟨by decide +kernel, rfl⟩
theorem f0_270 : Dec code 270 (.ldc2_w 15) 3 273 := ⟨by decide +kernel, rfl⟩
theorem f0_273 : Dec code 273 (.dconst 0) 1 274 := ⟨by decide +kernel, rfl⟩
theorem f0_274 : Dec code 274 (.invokevirtual 32) 3 277 := ⟨by decide +kernel, rfl⟩
theorem f0_277 : Dec code 277 (.aload 28) 2 279 := ⟨by decide +kernel, rfl⟩
theorem f0_279 : Dec code 279 (.aload 23) 2 281 := ⟨by decide +kernel, rfl⟩
theorem f0_281 : Dec code 281 (.iload 13) 2 283 := ⟨by decide +kernel, rfl⟩
theorem f0_283 : Dec code 283 (.invokevirtual 28) 3 286 := ⟨by decide +kernel, rfl⟩
theorem f0_286 : Dec code 286 (.aload 28) 2 288 := ⟨by decide +kernel, rfl⟩
theorem f0_288 : Dec code 288 (.iload 12) 2 290 := ⟨by decide +kernel, rfl⟩
theorem f0_290 : Dec code 290 (.invokevirtual 36) 3 293 := ⟨by decide +kernel, rfl⟩
theorem f0_293 : Dec code 293 (.dconst 0) 1 294 := ⟨by decide +kernel, rfl⟩
theorem f0_294 : Dec code 294 (.dcmp .l) 1 295 := ⟨by decide +kernel, rfl⟩
theorem f0_295 : DecJ code 295 (.ifCond .ne 7) 7 302 298 := ⟨by decide +kernel, by decide, by decide, rfl⟩
theorem f0_298 : Dec code 298 (.iconst 1) 1 299 := ⟨by decide +kernel, rfl⟩
theorem f0_299 : DecJ code 299 (.goto 4) 4 303 302 := ⟨by decide +kernel, by decide, by decide, rfl⟩
theorem f0_303 : Dec code 303 (.istore 29) 2 305 := ⟨by decide +kernel, rfl⟩
theorem f0_305 : Dec code 305 (.aload 28) 2 307 := ⟨by decide +kernel, rfl⟩
theorem f0_307 : Dec code 307 (.lload 14) 2 309 := ⟨by decide +kernel, rfl⟩
theorem f0_309 : Dec code 309 (.l2d) 1 310 := ⟨by decide +kernel, rfl⟩
theorem f0_310 : Dec code 310 (.lload 16) 2 312 := ⟨by decide +kernel, rfl⟩
theorem f0_312 : Dec code 312 (.l2d) 1 313 := ⟨by decide +kernel, rfl⟩
theorem f0_313 : Dec code 313 (.invokevirtual 32) 3 316 := ⟨by decide +kernel, rfl⟩
theorem f0_316 : Dec code 316 (.aload 28) 2 318 := ⟨by decide +kernel, rfl⟩
theorem f0_318 : Dec code 318 (.lload 18) 2 320 := ⟨by decide +kernel, rfl⟩
theorem f0_320 : Dec code 320 (.l2d) 1 321 := ⟨by decide +kernel, rfl⟩
theorem f0_321 : Dec code 321 (.lload 20) 2 323 := ⟨by decide +kernel, rfl⟩
theorem f0_323 : Dec code 323 (.l2d) 1 324 := ⟨by decide +kernel, rfl⟩
theorem f0_324 : Dec code 324 (.invokevirtual 32) 3 327 := ⟨by decide +kernel, rfl⟩
theorem f0_327 : Dec code 327 (.aload 28) 2 329 := ⟨by decide +kernel, rfl⟩
theorem f0_329 : Dec code 329 (.iload 12) 2 331 := ⟨by decide +kernel, rfl⟩
theorem f0_331 : Dec code 331 (.invokevirtual 36) 3 334 := ⟨by decide +kernel, rfl⟩
theorem f0_334 : Dec code 334 (.dstore 30) 2 336 := ⟨by decide +kernel, rfl⟩
theorem f0_336 : Dec code 336 (.iload 29) 2 338 := ⟨by decide +kernel, rfl⟩
theorem f0_338 : DecJ code 338 (.ifCond .eq 16) 16 354 341 := ⟨by decide +kernel, by decide, by decide, rfl⟩
theorem f0_341 : Dec code 341 (.dload 30) 2 343 := ⟨by decide +kernel, rfl⟩
theorem f0_343 : Dec code 343 (.lload 26) 2 345 := ⟨by decide +kernel, rfl⟩
theorem f0_345 : Dec code 345 (.l2d) 1 346 := ⟨by decide +kernel, rfl⟩
theorem f0_346 : Dec code 346 (.dcmp .l) 1 347 := ⟨by decide +kernel, rfl⟩
theorem f0_347 : DecJ code 347 (.ifCond .ne 7) 7 354 350 := ⟨by decide +kernel, by decide, by decide, rfl⟩
theorem f0_350 : Dec code 350 (.iconst 1) 1 351 := ⟨by decide +kernel, rfl⟩
theorem f0_351 : DecJ code 351 (.goto 4) 4 355 354 := ⟨by decide +kernel, by decide, by decide, rfl⟩
theorem f0_355 : Dec code 355 (.ireturn) 1 356 := ⟨by decide +kernel, rfl⟩
theorem pn_0 : plainFor x = true := plainFor_of_name (show plainName "com/example/arbor_center/arborcenter/objective/UpperEnvelopeResetPinLaw" = true by first | (simp [plainName, overriddenIn]; done) | decide +kernel)
theorem ef_0 (m : MethodId) (x1 : Int32) (x2 : Int32) (x3 : Int32) (x4 : Int32) : entryFrame m #[(.int x1), (.int x2), (.int x3), (.int x4)] maxLocals = mkF m 0 #[.val (.int x1), .val (.int x2), .val (.int x3), .val (.int x4), .unset, .unset, .unset, .unset, .unset, .unset, .unset, .unset, .unset, .unset, .unset, .unset, .unset, .unset, .unset, .unset, .unset, .unset, .unset, .unset, .unset, .unset, .unset, .unset, .unset, .unset, .unset, .unset] [] := by first | (simp [entryFrame, mkF, argsToLocals, Value.category, maxLocals]; done) | rfl
def Q0 (n0 : Nat) (v : Option Value) (h : Heap) (L : List Loc) : Prop := v = some (.int 1) ∧ Fr n0 L
set_option maxRecDepth 65536 in
set_option maxHeartbeats 40000000 in
theorem rm0 (l : Launch) (Z : State) (a0 : Array Value) (hw : ∀ d ∈ tables_1, d.before a0 Z = true) (ws : List Jvm.Cond) (x1 : Int32) (x2 : Int32) (x3 : Int32) (x4 : Int32) (h0 : Heap) (n0 : Nat) (Z0 : n0 ≤ h0.size) :
    MetFree l x (head1 (Jvm.Cond.code x code maxLocals ret :: ws) room_1) (fun A9 U9 => A9 = #[(.int x1), (.int x2), (.int x3), (.int x4)] ∧ Z.Warmed39 U9.vm ∧ U9.heap = h0) (fun _ _ _ _ _ => True) (fun _ U9 o9 V9 => ∃ v9 L9, o9 = .returned v9 ∧ (Q0 n0) v9 V9.heap L9 ∧ FrameEnd U9 o9 V9 L9 room_1.cells room_1.slots) := by
  refine met_of (Q := (Q0 n0)) pn_0 ?_
  intro p e s m below meth c T0 C X0 e0
  have N0 := Fr.nil n0
  refine Go.cast (ef_0 m x1 x2 x3 x4) ?_
  refine wiloadN C X0 f0_0 rfl ?_
  refine wsipush C X0 f0_1 (1023 : Int32) bp_s_1023 ?_
  refine wiand C X0 f0_4 ?_
  refine wi2l C X0 f0_5 ?_
  have hp0 := own_msk x1
  generalize (x1 &&& (1023 : Int32)).toInt64 = p0 at hp0 ⊢
  refine wlstore C X0 f0_6 #[.val (.int x1), .val (.int x2), .val (.int x3), .val (.int x4), .val (.long p0), .second, .unset, .unset, .unset, .unset, .unset, .unset, .unset, .unset, .unset, .unset, .unset, .unset, .unset, .unset, .unset, .unset, .unset, .unset, .unset, .unset, .unset, .unset, .unset, .unset, .unset, .unset] rfl ?_
  refine wlload C X0 f0_8 rfl ?_
  refine wlconst1 C X0 f0_10 ?_
  refine wladd C X0 f0_11 ?_
  refine wiloadN C X0 f0_12 rfl ?_
  refine wbipush C X0 f0_13 (10 : Int32) bp_b_10 ?_
  refine wiushr C X0 f0_15 ?_
  refine wsipush C X0 f0_16 (1023 : Int32) bp_s_1023 ?_
  refine wiand C X0 f0_19 ?_
  refine wi2l C X0 f0_20 ?_
  have hg1 := own_msk ((x1.toUInt32 >>> ((10 : Int32) &&& 31).toUInt32).toInt32)
  generalize ((x1.toUInt32 >>> ((10 : Int32) &&& 31).toUInt32).toInt32 &&& (1023 : Int32)).toInt64 = g1 at hg1 ⊢
  refine wladd C X0 f0_21 ?_
  have hp1 := own_pp hp0 hg1 (by decide)
  generalize ((p0 + (1 : Int64)) + g1) = p1 at hp1 ⊢
  refine wlstore C X0 f0_22 #[.val (.int x1), .val (.int x2), .val (.int x3), .val (.int x4), .val (.long p0), .second, .val (.long p1), .second, .unset, .unset, .unset, .unset, .unset, .unset, .unset, .unset, .unset, .unset, .unset, .unset, .unset, .unset, .unset, .unset, .unset, .unset, .unset, .unset, .unset, .unset, .unset, .unset] rfl ?_
  refine wlload C X0 f0_24 rfl ?_
  refine wlconst1 C X0 f0_26 ?_
  refine wladd C X0 f0_27 ?_
  refine wiloadN C X0 f0_28 rfl ?_
  refine wbipush C X0 f0_29 (20 : Int32) bp_b_20 ?_
  refine wiushr C X0 f0_31 ?_
  refine wsipush C X0 f0_32 (1023 : Int32) bp_s_1023 ?_
  refine wiand C X0 f0_35 ?_
  refine wi2l C X0 f0_36 ?_
  have hg2 := own_msk ((x1.toUInt32 >>> ((20 : Int32) &&& 31).toUInt32).toInt32)
  generalize ((x1.toUInt32 >>> ((20 : Int32) &&& 31).toUInt32).toInt32 &&& (1023 : Int32)).toInt64 = g2 at hg2 ⊢
  refine wladd C X0 f0_37 ?_
  have hp2 := own_pp hp1.2 hg2 (by decide)
  generalize ((p1 + (1 : Int64)) + g2) = p2 at hp2 ⊢
  refine wlstore C X0 f0_38 #[.val (.int x1), .val (.int x2), .val (.int x3), .val (.int x4), .val (.long p0), .second, .val (.long p1), .second, .val (.long p2), .second, .unset, .unset, .unset, .unset, .unset, .unset, .unset, .unset, .unset, .unset, .unset, .unset, .unset, .unset, .unset, .unset, .unset, .unset, .unset, .unset, .unset, .unset] rfl ?_
  refine wlload C X0 f0_40 rfl ?_
  refine wlconst1 C X0 f0_42 ?_
  refine wladd C X0 f0_43 ?_
  refine wiloadN C X0 f0_44 rfl ?_
  refine wsipush C X0 f0_45 (1023 : Int32) bp_s_1023 ?_
  refine wiand C X0 f0_48 ?_
  refine wi2l C X0 f0_49 ?_
  have hg3 := own_msk x2
  generalize (x2 &&& (1023 : Int32)).toInt64 = g3 at hg3 ⊢
  refine wladd C X0 f0_50 ?_
  have hp3 := own_pp hp2.2 hg3 (by decide)
  generalize ((p2 + (1 : Int64)) + g3) = p3 at hp3 ⊢
  have hm0 : ∀ k, k ≤ 4 → ∀ i j, i ≤ j → j < k → own_P4 p0.toInt p1.toInt p2.toInt p3.toInt i ≤ own_P4 p0.toInt p1.toInt p2.toInt p3.toInt j := fun k hk => own_mono4 hk (by omega) (by omega) (by omega)
  have hd_0 : ∃ q : Int, FP.Core.DInt q (FP.l2d p0) ∧ 0 ≤ q ∧ q ≤ 65536 := ⟨_, own_l2d (by omega), by omega, by omega⟩
  have hd_1 : ∃ q : Int, FP.Core.DInt q (FP.l2d p1) ∧ 0 ≤ q ∧ q ≤ 65536 := ⟨_, own_l2d (by omega), by omega, by omega⟩
  have hd_2 : ∃ q : Int, FP.Core.DInt q (FP.l2d p2) ∧ 0 ≤ q ∧ q ≤ 65536 := ⟨_, own_l2d (by omega), by omega, by omega⟩
  have hd_3 : ∃ q : Int, FP.Core.DInt q (FP.l2d p3) ∧ 0 ≤ q ∧ q ≤ 65536 := ⟨_, own_l2d (by omega), by omega, by omega⟩
  refine wlstore C X0 f0_51 #[.val (.int x1), .val (.int x2), .val (.int x3), .val (.int x4), .val (.long p0), .second, .val (.long p1), .second, .val (.long p2), .second, .val (.long p3), .second, .unset, .unset, .unset, .unset, .unset, .unset, .unset, .unset, .unset, .unset, .unset, .unset, .unset, .unset, .unset, .unset, .unset, .unset, .unset, .unset] rfl ?_
  refine wiloadN C X0 f0_53 rfl ?_
  refine wbipush C X0 f0_54 (10 : Int32) bp_b_10 ?_
  refine wiushr C X0 f0_56 ?_
  refine wiconst C X0 f0_57 (3 : Int32) rfl ?_
  refine wiand C X0 f0_58 ?_
  have hkk := own_msk3 ((x2.toUInt32 >>> ((10 : Int32) &&& 31).toUInt32).toInt32)
  generalize ((x2.toUInt32 >>> ((10 : Int32) &&& 31).toUInt32).toInt32 &&& (3 : Int32)) = kk at hkk ⊢
  refine wistore C X0 f0_59 #[.val (.int x1), .val (.int x2), .val (.int x3), .val (.int x4), .val (.long p0), .second, .val (.long p1), .second, .val (.long p2), .second, .val (.long p3), .second, .val (.int kk), .unset, .unset, .unset, .unset, .unset, .unset, .unset, .unset, .unset, .unset, .unset, .unset, .unset, .unset, .unset, .unset, .unset, .unset, .unset] rfl ?_
  refine wiconst C X0 f0_61 (4 : Int32) rfl ?_
  refine wiload C X0 f0_62 rfl ?_
  refine wiconst C X0 f0_64 (1 : Int32) rfl ?_
  refine wiadd C X0 f0_65 ?_
  refine wiloadN C X0 f0_66 rfl ?_
  refine wbipush C X0 f0_67 (12 : Int32) bp_b_12 ?_
  refine wiushr C X0 f0_69 ?_
  refine wiconst C X0 f0_70 (3 : Int32) rfl ?_
  refine wiand C X0 f0_71 ?_
  have hg4 := own_msk3 ((x2.toUInt32 >>> ((12 : Int32) &&& 31).toUInt32).toInt32)
  generalize ((x2.toUInt32 >>> ((12 : Int32) &&& 31).toUInt32).toInt32 &&& (3 : Int32)) = g4 at hg4 ⊢
  refine wiadd C X0 f0_72 ?_
  refine wstatic C X0 (y := (⟨"java/lang/Math", "min", "(II)I"⟩ : MethodName)) (tw_0 hw) (tw_1 hw) (tw_2 hw) (tw_3 hw) (by decide) (rm1 l Z a0 hw [] (4 : Int32) ((kk + (1 : Int32)) + g4) h0 n0 Z0) e0 f0_73 (argsL := [(.int (4 : Int32)), (.int ((kk + (1 : Int32)) + g4))]) (rest := []) rfl rfl (lenOf pd_0 rfl) rfl (W := 0) (Nat.le_of_eq rfl) (by decide) (by decide) (by decide) (by decide) ?_
  intro v1 T1 L1 X1 q1
  obtain ⟨rfl, Nq1, eq1⟩ := q1
  have N1 := Fr.app N0 Nq1
  show Go p e below s _ _ _ T1 (mkF m 76 #[.val (.int x1), .val (.int x2), .val (.int x3), .val (.int x4), .val (.long p0), .second, .val (.long p1), .second, .val (.long p2), .second, .val (.long p3), .second, .val (.int kk), .unset, .unset, .unset, .unset, .unset, .unset, .unset, .unset, .unset, .unset, .unset, .unset, .unset, .unset, .unset, .unset, .unset, .unset, .unset] [(.int (R1 (4 : Int32) ((kk + (1 : Int32)) + g4)))])
  have hct := own_ct hkk hg4
  generalize (R1 (4 : Int32) ((kk + (1 : Int32)) + g4)) = ct at hct ⊢
  refine wistore C X1 f0_76 #[.val (.int x1), .val (.int x2), .val (.int x3), .val (.int x4), .val (.long p0), .second, .val (.long p1), .second, .val (.long p2), .second, .val (.long p3), .second, .val (.int kk), .val (.int ct), .unset, .unset, .unset, .unset, .unset, .unset, .unset, .unset, .unset, .unset, .unset, .unset, .unset, .unset, .unset, .unset, .unset, .unset] rfl ?_
  refine wiconst C X1 f0_78 (1 : Int32) rfl ?_
  refine wiloadN C X1 f0_79 rfl ?_
  refine wsipush C X1 f0_80 (1023 : Int32) bp_s_1023 ?_
  refine wiand C X1 f0_83 ?_
  refine wiadd C X1 f0_84 ?_
  refine wi2l C X1 f0_85 ?_
  have hw1 := own_msk1 x3
  generalize ((1 : Int32) + (x3 &&& (1023 : Int32))).toInt64 = w1 at hw1 ⊢
  refine wlstore C X1 f0_86 #[.val (.int x1), .val (.int x2), .val (.int x3), .val (.int x4), .val (.long p0), .second, .val (.long p1), .second, .val (.long p2), .second, .val (.long p3), .second, .val (.int kk), .val (.int ct), .val (.long w1), .second, .unset, .unset, .unset, .unset, .unset, .unset, .unset, .unset, .unset, .unset, .unset, .unset, .unset, .unset, .unset, .unset] rfl ?_
  refine wiloadN C X1 f0_88 rfl ?_
  refine wbipush C X1 f0_89 (10 : Int32) bp_b_10 ?_
  refine wiushr C X1 f0_91 ?_
  refine wsipush C X1 f0_92 (1023 : Int32) bp_s_1023 ?_
  refine wiand C X1 f0_95 ?_
  refine wi2l C X1 f0_96 ?_
  have hd1 := own_msk ((x3.toUInt32 >>> ((10 : Int32) &&& 31).toUInt32).toInt32)
  generalize ((x3.toUInt32 >>> ((10 : Int32) &&& 31).toUInt32).toInt32 &&& (1023 : Int32)).toInt64 = d1 at hd1 ⊢
  refine wlstore C X1 f0_97 #[.val (.int x1), .val (.int x2), .val (.int x3), .val (.int x4), .val (.long p0), .second, .val (.long p1), .second, .val (.long p2), .second, .val (.long p3), .second, .val (.int kk), .val (.int ct), .val (.long w1), .second, .val (.long d1), .second, .unset, .unset, .unset, .unset, .unset, .unset, .unset, .unset, .unset, .unset, .unset, .unset, .unset, .unset] rfl ?_
  refine wiconst C X1 f0_99 (1 : Int32) rfl ?_
  refine wiloadN C X1 f0_100 rfl ?_
  refine wsipush C X1 f0_101 (1023 : Int32) bp_s_1023 ?_
  refine wiand C X1 f0_104 ?_
  refine wiadd C X1 f0_105 ?_
  refine wi2l C X1 f0_106 ?_
  have hw2 := own_msk1 x4
  generalize ((1 : Int32) + (x4 &&& (1023 : Int32))).toInt64 = w2 at hw2 ⊢
  refine wlstore C X1 f0_107 #[.val (.int x1), .val (.int x2), .val (.int x3), .val (.int x4), .val (.long p0), .second, .val (.long p1), .second, .val (.long p2), .second, .val (.long p3), .second, .val (.int kk), .val (.int ct), .val (.long w1), .second, .val (.long d1), .second, .val (.long w2), .second, .unset, .unset, .unset, .unset, .unset, .unset, .unset, .unset, .unset, .unset, .unset, .unset] rfl ?_
  refine wiloadN C X1 f0_109 rfl ?_
  refine wbipush C X1 f0_110 (10 : Int32) bp_b_10 ?_
  refine wiushr C X1 f0_112 ?_
  refine wsipush C X1 f0_113 (1023 : Int32) bp_s_1023 ?_
  refine wiand C X1 f0_116 ?_
  refine wi2l C X1 f0_117 ?_
  have hd2 := own_msk ((x4.toUInt32 >>> ((10 : Int32) &&& 31).toUInt32).toInt32)
  generalize ((x4.toUInt32 >>> ((10 : Int32) &&& 31).toUInt32).toInt32 &&& (1023 : Int32)).toInt64 = d2 at hd2 ⊢
  refine wlstore C X1 f0_118 #[.val (.int x1), .val (.int x2), .val (.int x3), .val (.int x4), .val (.long p0), .second, .val (.long p1), .second, .val (.long p2), .second, .val (.long p3), .second, .val (.int kk), .val (.int ct), .val (.long w1), .second, .val (.long d1), .second, .val (.long w2), .second, .val (.long d2), .second, .unset, .unset, .unset, .unset, .unset, .unset, .unset, .unset, .unset, .unset] rfl ?_
  refine wiconst C X1 f0_120 (4 : Int32) rfl ?_
  refine wnewarr C X1 (aty := .double) (tw_4 hw) eq1 f0_121 (by decide) (cap := 4) (by decide) (by decide) (by decide) (by decide) ?_
  intro T2 h2 b2 k2 g2 X2 e2 E2 V2
  have sz2 : h0.size ≤ b2 := Nat.le_trans (Nat.le_refl h0.size) (Nat.le_of_eq g2.symm)
  have Vp2 : Arv Z h2 b2 k2 .double (4 : Int32) [(.double (0 : UInt64)), (.double (0 : UInt64)), (.double (0 : UInt64)), (.double (0 : UInt64))] (.double (0 : UInt64)) := Arv.pad V2 (pad_rep [] (.double (0 : UInt64)) 4)
  refine wastore C X2 f0_123 #[.val (.int x1), .val (.int x2), .val (.int x3), .val (.int x4), .val (.long p0), .second, .val (.long p1), .second, .val (.long p2), .second, .val (.long p3), .second, .val (.int kk), .val (.int ct), .val (.long w1), .second, .val (.long d1), .second, .val (.long w2), .second, .val (.long d2), .second, .val (.ref b2), .unset, .unset, .unset, .unset, .unset, .unset, .unset, .unset, .unset] rfl rfl ?_
  refine waload C X2 f0_125 rfl rfl ?_
  refine wiconst C X2 f0_127 (0 : Int32) rfl ?_
  refine wdconst0 C X2 f0_128 ?_
  refine wdastore C X2 e2 Vp2 f0_129 ⟨by decide, by decide⟩ 0 rfl (show (0 : Nat) < 4 by decide) [(.double FP.dconst0), (.double (0 : UInt64)), (.double (0 : UInt64)), (.double (0 : UInt64))] rfl ?_
  intro T3 h3 sl3 w3 X3 e3 W3 V3
  have N3 := Fr.snoc X3 N1 (Nat.le_trans Z0 sz2)
  refine waload C X3 f0_130 rfl rfl ?_
  refine wiconst C X3 f0_132 (1 : Int32) rfl ?_
  refine wldc2D C X3 (tw_5 hw) f0_133 ?_
  refine wdastore C X3 e3 V3 f0_136 ⟨by decide, by decide⟩ 1 rfl (show (1 : Nat) < 4 by decide) [(.double FP.dconst0), (.double (4611686018427387904 : UInt64)), (.double (0 : UInt64)), (.double (0 : UInt64))] rfl ?_
  intro T4 h4 sl4 w4 X4 e4 W4 V4
  have N4 := Fr.snoc X4 N3 (Nat.le_trans Z0 sz2)
  refine waload C X4 f0_137 rfl rfl ?_
  refine wiconst C X4 f0_139 (2 : Int32) rfl ?_
  refine wldc2D C X4 (tw_6 hw) f0_140 ?_
  refine wdastore C X4 e4 V4 f0_143 ⟨by decide, by decide⟩ 2 rfl (show (2 : Nat) < 4 by decide) [(.double FP.dconst0), (.double (4611686018427387904 : UInt64)), (.double (4616189618054758400 : UInt64)), (.double (0 : UInt64))] rfl ?_
  intro T5 h5 sl5 w5 X5 e5 W5 V5
  have N5 := Fr.snoc X5 N4 (Nat.le_trans Z0 sz2)
  refine waload C X5 f0_144 rfl rfl ?_
  refine wiconst C X5 f0_146 (3 : Int32) rfl ?_
  refine wldc2D C X5 (tw_7 hw) f0_147 ?_
  refine wdastore C X5 e5 V5 f0_150 ⟨by decide, by decide⟩ 3 rfl (show (3 : Nat) < 4 by decide) [(.double FP.dconst0), (.double (4611686018427387904 : UInt64)), (.double (4616189618054758400 : UInt64)), (.double (4618441417868443648 : UInt64))] rfl ?_
  intro T6 h6 sl6 w6 X6 e6 W6 V6
  have N6 := Fr.snoc X6 N5 (Nat.le_trans Z0 sz2)
  refine wiconst C X6 f0_151 (4 : Int32) rfl ?_
  have q8 := (Nat.le_trans (Nat.le_trans (Nat.le_trans (Nat.le_trans (Nat.le_trans (Nat.le_refl h0.size) E2.1) (Nat.le_of_eq W3.size.symm)) (Nat.le_of_eq W4.size.symm)) (Nat.le_of_eq W5.size.symm)) (Nat.le_of_eq W6.size.symm))
  refine wnewarr C X6 (aty := .double) (tw_4 hw) e6 f0_152 (by decide) (cap := 4) (by decide) (by decide) (by decide) (by decide) ?_
  intro T7 h7 b7 k7 g7 X7 e7 E7 V7
  have sz7 : h0.size ≤ b7 := Nat.le_trans q8 (Nat.le_of_eq g7.symm)
  have Vp7 : Arv Z h7 b7 k7 .double (4 : Int32) [(.double (0 : UInt64)), (.double (0 : UInt64)), (.double (0 : UInt64)), (.double (0 : UInt64))] (.double (0 : UInt64)) := Arv.pad V7 (pad_rep [] (.double (0 : UInt64)) 4)
  refine wastore C X7 f0_154 #[.val (.int x1), .val (.int x2), .val (.int x3), .val (.int x4), .val (.long p0), .second, .val (.long p1), .second, .val (.long p2), .second, .val (.long p3), .second, .val (.int kk), .val (.int ct), .val (.long w1), .second, .val (.long d1), .second, .val (.long w2), .second, .val (.long d2), .second, .val (.ref b2), .val (.ref b7), .unset, .unset, .unset, .unset, .unset, .unset, .unset, .unset] rfl rfl ?_
  refine waload C X7 f0_156 rfl rfl ?_
  refine wiconst C X7 f0_158 (0 : Int32) rfl ?_
  refine wlload C X7 f0_159 rfl ?_
  refine wl2d C X7 f0_161 ?_
  refine wdastore C X7 e7 Vp7 f0_162 ⟨by decide, by decide⟩ 0 rfl (show (0 : Nat) < 4 by decide) [(.double (FP.l2d p0)), (.double (0 : UInt64)), (.double (0 : UInt64)), (.double (0 : UInt64))] rfl ?_
  intro T9 h9 sl9 w9 X9 e9 W9 V9
  have N9 := Fr.snoc X9 N6 (Nat.le_trans Z0 sz7)
  refine waload C X9 f0_163 rfl rfl ?_
  refine wiconst C X9 f0_165 (1 : Int32) rfl ?_
  refine wlload C X9 f0_166 rfl ?_
  refine wl2d C X9 f0_168 ?_
  refine wdastore C X9 e9 V9 f0_169 ⟨by decide, by decide⟩ 1 rfl (show (1 : Nat) < 4 by decide) [(.double (FP.l2d p0)), (.double (FP.l2d p1)), (.double (0 : UInt64)), (.double (0 : UInt64))] rfl ?_
  intro T10 h10 sl10 w10 X10 e10 W10 V10
  have N10 := Fr.snoc X10 N9 (Nat.le_trans Z0 sz7)
  refine waload C X10 f0_170 rfl rfl ?_
  refine wiconst C X10 f0_172 (2 : Int32) rfl ?_
  refine wlload C X10 f0_173 rfl ?_
  refine wl2d C X10 f0_175 ?_
  refine wdastore C X10 e10 V10 f0_176 ⟨by decide, by decide⟩ 2 rfl (show (2 : Nat) < 4 by decide) [(.double (FP.l2d p0)), (.double (FP.l2d p1)), (.double (FP.l2d p2)), (.double (0 : UInt64))] rfl ?_
  intro T11 h11 sl11 w11 X11 e11 W11 V11
  have N11 := Fr.snoc X11 N10 (Nat.le_trans Z0 sz7)
  refine waload C X11 f0_177 rfl rfl ?_
  refine wiconst C X11 f0_179 (3 : Int32) rfl ?_
  refine wlload C X11 f0_180 rfl ?_
  refine wl2d C X11 f0_182 ?_
  refine wdastore C X11 e11 V11 f0_183 ⟨by decide, by decide⟩ 3 rfl (show (3 : Nat) < 4 by decide) [(.double (FP.l2d p0)), (.double (FP.l2d p1)), (.double (FP.l2d p2)), (.double (FP.l2d p3))] rfl ?_
  intro T12 h12 sl12 w12 X12 e12 W12 V12
  have N12 := Fr.snoc X12 N11 (Nat.le_trans Z0 sz7)
  refine wiload C X12 f0_184 rfl ?_
  have J13 : ∀ (pk : Int64), ((kk = 0 ∧ pk = p0) ∨ (kk = 1 ∧ pk = p1) ∨ (kk = 2 ∧ pk = p2) ∨ (kk = 3 ∧ pk = p3)) → Go p e below s (Q0 n0) room_1.cells room_1.slots T12 (mkF m 218 #[.val (.int x1), .val (.int x2), .val (.int x3), .val (.int x4), .val (.long p0), .second, .val (.long p1), .second, .val (.long p2), .second, .val (.long p3), .second, .val (.int kk), .val (.int ct), .val (.long w1), .second, .val (.long d1), .second, .val (.long w2), .second, .val (.long d2), .second, .val (.ref b2), .val (.ref b7), .unset, .unset, .unset, .unset, .unset, .unset, .unset, .unset] [(.long pk)]) := by
    intro pk hpk
    refine wlstore C X12 f0_218 #[.val (.int x1), .val (.int x2), .val (.int x3), .val (.int x4), .val (.long p0), .second, .val (.long p1), .second, .val (.long p2), .second, .val (.long p3), .second, .val (.int kk), .val (.int ct), .val (.long w1), .second, .val (.long d1), .second, .val (.long w2), .second, .val (.long d2), .second, .val (.ref b2), .val (.ref b7), .val (.long pk), .second, .unset, .unset, .unset, .unset, .unset, .unset] rfl ?_
    refine wlload C X12 f0_220 rfl ?_
    refine wlload C X12 f0_222 rfl ?_
    refine wlload C X12 f0_224 rfl ?_
    refine wladd C X12 f0_226 ?_
    refine wlmul C X12 f0_227 ?_
    refine wlload C X12 f0_228 rfl ?_
    refine wlload C X12 f0_230 rfl ?_
    refine wlload C X12 f0_232 rfl ?_
    refine wladd C X12 f0_234 ?_
    refine wlmul C X12 f0_235 ?_
    have q15 := (Nat.le_trans (Nat.le_trans (Nat.le_trans (Nat.le_trans (Nat.le_trans (Nat.le_trans (Nat.le_trans (Nat.le_trans (Nat.le_trans (Nat.le_trans Z0 E2.1) (Nat.le_of_eq W3.size.symm)) (Nat.le_of_eq W4.size.symm)) (Nat.le_of_eq W5.size.symm)) (Nat.le_of_eq W6.size.symm)) E7.1) (Nat.le_of_eq W9.size.symm)) (Nat.le_of_eq W10.size.symm)) (Nat.le_of_eq W11.size.symm)) (Nat.le_of_eq W12.size.symm))
    refine wstatic C X12 (y := (⟨"java/lang/Math", "max", "(JJ)J"⟩ : MethodName)) (tw_8 hw) (tw_9 hw) (tw_2 hw) (tw_10 hw) (by decide) (rm2 l Z a0 hw [] (w1 * (pk + d1)) (w2 * (pk + d2)) h12 n0 q15) e12 f0_236 (argsL := [(.long (w1 * (pk + d1))), (.long (w2 * (pk + d2)))]) (rest := []) rfl rfl (lenOf pd_1 rfl) rfl (W := 0) (Nat.le_of_eq rfl) (by decide) (by decide) (by decide) (by decide) ?_
    intro v14 T14 L14 X14 q14
    obtain ⟨rfl, Nq14, eq14⟩ := q14
    have N14 := Fr.app N12 Nq14
    show Go p e below s _ _ _ T14 (mkF m 239 #[.val (.int x1), .val (.int x2), .val (.int x3), .val (.int x4), .val (.long p0), .second, .val (.long p1), .second, .val (.long p2), .second, .val (.long p3), .second, .val (.int kk), .val (.int ct), .val (.long w1), .second, .val (.long d1), .second, .val (.long w2), .second, .val (.long d2), .second, .val (.ref b2), .val (.ref b7), .val (.long pk), .second, .unset, .unset, .unset, .unset, .unset, .unset] [(.long (R2 (w1 * (pk + d1)) (w2 * (pk + d2))))])
    have hq : 0 ≤ pk.toInt ∧ pk.toInt ≤ 65536 := by rcases hpk with ⟨-, rfl⟩ | ⟨-, rfl⟩ | ⟨-, rfl⟩ | ⟨-, rfl⟩ <;> omega
    have m1 := own_mulb hw1 hq hd1
    have m2 := own_mulb hw2 hq hd2
    have hex := (own_ex (u := w1 * (pk + d1)) (v := w2 * (pk + d2)))
    generalize (R2 (w1 * (pk + d1)) (w2 * (pk + d2))) = ex at hex ⊢
    rw [m1.1, m2.1] at hex
    have hexd := own_l2d (a := ex) (by omega)
    refine wlstore C X14 f0_239 #[.val (.int x1), .val (.int x2), .val (.int x3), .val (.int x4), .val (.long p0), .second, .val (.long p1), .second, .val (.long p2), .second, .val (.long p3), .second, .val (.int kk), .val (.int ct), .val (.long w1), .second, .val (.long d1), .second, .val (.long w2), .second, .val (.long d2), .second, .val (.ref b2), .val (.ref b7), .val (.long pk), .second, .val (.long ex), .second, .unset, .unset, .unset, .unset] rfl ?_
    have q17 := (Nat.le_trans (Nat.le_trans (Nat.le_trans (Nat.le_trans (Nat.le_trans q8 E7.1) (Nat.le_of_eq W9.size.symm)) (Nat.le_of_eq W10.size.symm)) (Nat.le_of_eq W11.size.symm)) (Nat.le_of_eq W12.size.symm))
    refine wnew C X14 (tw_11 hw) (tw_12 hw) (tw_13 hw) eq14 f0_241 (by decide) (by decide) ?_
    intro T16 h16 b16 g16 X16 e16 E16 A16 D16
    have sz16 : h0.size ≤ b16 := Nat.le_trans q17 (Nat.le_of_eq g16.symm)
    have F16_halfPoints : Fld Z h16 b16 "com/example/arbor_center/arborcenter/objective/UpperEnvelope" "halfPoints" "[D" .null := D16 (Or.inr (tw_21 hw)) (ty := (.array .double)) (by decide)
    have F16_lines : Fld Z h16 b16 "com/example/arbor_center/arborcenter/objective/UpperEnvelope" "lines" "[D" .null := D16 (Or.inr (tw_23 hw)) (ty := (.array .double)) (by decide)
    have F16_count : Fld Z h16 b16 "com/example/arbor_center/arborcenter/objective/UpperEnvelope" "count" "I" (.int (0 : Int32)) := D16 (Or.inl (tw_30 hw)) (ty := .int) (by decide)
    refine wdup C X16 f0_244 rfl ?_
    refine wiconst C X16 f0_245 (4 : Int32) rfl ?_
    refine wspecial C X16 (y := (⟨"com/example/arbor_center/arborcenter/objective/UpperEnvelope", "<init>", "(I)V"⟩ : MethodName)) rfl (tw_14 hw) (tw_15 hw) (tw_16 hw) (tw_13 hw) rfl (by decide) (rm3 l Z a0 hw [] b16 (4 : Int32) h16 n0 (Nat.le_trans q15 E16.1) A16 F16_halfPoints F16_count F16_lines (Nat.le_trans Z0 sz16) rfl) e16 f0_246 (a := b16) (argsL := [(.int (4 : Int32))]) (rest := [(.ref b16)]) rfl rfl (lenOf pd_2 rfl) rfl (W := 1) (Nat.le_of_eq rfl) (by decide) (by decide) (by decide) (by decide) ?_
    intro v18 T18 L18 X18 q18
    obtain ⟨ph_18, pl_18, k1_18, k2_18, rfl, Nq18, K18, G18_0, G18_1, G18_2, G18_3, G18_4, G18_5, G18_6, G18_7, G18_8⟩ := q18
    have szG18_1 : h0.size ≤ ph_18 := Nat.le_trans (Nat.le_trans q17 E16.1) G18_1
    have szG18_2 : h0.size ≤ pl_18 := Nat.le_trans (Nat.le_trans q17 E16.1) G18_2
    have N18 := Fr.app N14 Nq18
    show Go p e below s _ _ _ T18 (mkF m 249 #[.val (.int x1), .val (.int x2), .val (.int x3), .val (.int x4), .val (.long p0), .second, .val (.long p1), .second, .val (.long p2), .second, .val (.long p3), .second, .val (.int kk), .val (.int ct), .val (.long w1), .second, .val (.long d1), .second, .val (.long w2), .second, .val (.long d2), .second, .val (.ref b2), .val (.ref b7), .val (.long pk), .second, .val (.long ex), .second, .unset, .unset, .unset, .unset] [(.ref b16)])
    refine wastore C X18 f0_249 #[.val (.int x1), .val (.int x2), .val (.int x3), .val (.int x4), .val (.long p0), .second, .val (.long p1), .second, .val (.long p2), .second, .val (.long p3), .second, .val (.int kk), .val (.int ct), .val (.long w1), .second, .val (.long d1), .second, .val (.long w2), .second, .val (.long d2), .second, .val (.ref b2), .val (.ref b7), .val (.long pk), .second, .val (.long ex), .second, .val (.ref b16), .unset, .unset, .unset] rfl rfl ?_
    refine waload C X18 f0_251 rfl rfl ?_
    refine waload C X18 f0_253 rfl rfl ?_
    refine wiconst C X18 f0_255 (4 : Int32) rfl ?_
    have ne20 : b2 ≠ b7 := (Nat.ne_of_lt (Nat.lt_of_lt_of_le (Nat.lt_of_lt_of_eq (Nat.lt_of_lt_of_eq (Nat.lt_of_lt_of_eq (Nat.lt_of_lt_of_eq Vp2.lt W3.size.symm) W4.size.symm) W5.size.symm) W6.size.symm) (Nat.le_of_eq g7.symm)))
    have ne21 : b2 ≠ b16 := (Nat.ne_of_lt (Nat.lt_of_lt_of_le (Nat.lt_of_lt_of_eq (Nat.lt_of_lt_of_eq (Nat.lt_of_lt_of_eq (Nat.lt_of_lt_of_eq (Nat.lt_of_lt_of_le (Nat.lt_of_lt_of_eq (Nat.lt_of_lt_of_eq (Nat.lt_of_lt_of_eq (Nat.lt_of_lt_of_eq Vp2.lt W3.size.symm) W4.size.symm) W5.size.symm) W6.size.symm) E7.1) W9.size.symm) W10.size.symm) W11.size.symm) W12.size.symm) (Nat.le_of_eq g16.symm)))
    have q22 := (((((((V6.ext E7).other W9 ne20).other W10 ne20).other W11 ne20).other W12 ne20).ext E16).keep K18 (ninS ne21 nin0))
    have ne23 : b16 ≠ ph_18 := (Nat.ne_of_lt (Nat.lt_of_lt_of_le A16.lt G18_1))
    have ne24 : b16 ≠ pl_18 := (Nat.ne_of_lt (Nat.lt_of_lt_of_le A16.lt G18_2))
    have ne25 : b2 ≠ ph_18 := (Nat.ne_of_lt (Nat.lt_of_lt_of_le (Nat.lt_of_lt_of_le (Nat.lt_of_lt_of_eq (Nat.lt_of_lt_of_eq (Nat.lt_of_lt_of_eq (Nat.lt_of_lt_of_eq (Nat.lt_of_lt_of_le (Nat.lt_of_lt_of_eq (Nat.lt_of_lt_of_eq (Nat.lt_of_lt_of_eq (Nat.lt_of_lt_of_eq Vp2.lt W3.size.symm) W4.size.symm) W5.size.symm) W6.size.symm) E7.1) W9.size.symm) W10.size.symm) W11.size.symm) W12.size.symm) E16.1) G18_1))
    have ne26 : b2 ≠ pl_18 := (Nat.ne_of_lt (Nat.lt_of_lt_of_le (Nat.lt_of_lt_of_le (Nat.lt_of_lt_of_eq (Nat.lt_of_lt_of_eq (Nat.lt_of_lt_of_eq (Nat.lt_of_lt_of_eq (Nat.lt_of_lt_of_le (Nat.lt_of_lt_of_eq (Nat.lt_of_lt_of_eq (Nat.lt_of_lt_of_eq (Nat.lt_of_lt_of_eq Vp2.lt W3.size.symm) W4.size.symm) W5.size.symm) W6.size.symm) E7.1) W9.size.symm) W10.size.symm) W11.size.symm) W12.size.symm) E16.1) G18_2))
    refine wvirtual C X18 (y := (⟨"com/example/arbor_center/arborcenter/objective/UpperEnvelope", "reset", "([DI)V"⟩ : MethodName)) (z := (⟨"com/example/arbor_center/arborcenter/objective/UpperEnvelope", "reset", "([DI)V"⟩ : MethodName)) (tw_24 hw) (tw_25 hw) (notFace_of_selects (args := #[]) (mvT C.2.1 (tw_27 hw))) (tw_27 hw) (tw_26 hw) (tw_28 hw) (tw_13 hw) (by decide) (rm5_4 l Z a0 hw [] b16 b2 (4 : Int32) ph_18 pl_18 k1_18 k2_18 k2 (0 : Int32) [(.double (0 : UInt64)), (.double (0 : UInt64)), (.double (0 : UInt64)), (.double (0 : UInt64)), (.double (0 : UInt64)), (.double (0 : UInt64)), (.double (0 : UInt64)), (.double (0 : UInt64)), (.double (0 : UInt64)), (.double (0 : UInt64)), (.double (0 : UInt64)), (.double (0 : UInt64)), (.double (0 : UInt64)), (.double (0 : UInt64))] (0 : UInt64) (0 : UInt64) (0 : UInt64) (0 : UInt64) FP.dconst0 (4611686018427387904 : UInt64) (4616189618054758400 : UInt64) (4618441417868443648 : UInt64) T18.heap n0 (Nat.le_trans (Nat.le_trans q15 E16.1) K18.1) G18_0 G18_4 G18_5 G18_6 G18_7 G18_8 q22 (Nat.le_trans Z0 sz16) (Nat.le_trans Z0 szG18_1) (Nat.le_trans Z0 szG18_2) ne23 ne24 G18_3 ne21 ne25 ne26 rfl rfl ⟨0, own_c 0 _ 0 (by decide +kernel) (by decide), by decide, by decide⟩ ⟨2, own_c 2 _ 2 (by decide +kernel) (by decide), by decide, by decide⟩ ⟨4, own_c 4 _ 4 (by decide +kernel) (by decide), by decide, by decide⟩ ⟨6, own_c 6 _ 6 (by decide +kernel) (by decide), by decide, by decide⟩) rfl (a := b16) G18_0 f0_256 (argsL := [(.ref b2), (.int (4 : Int32))]) (rest := []) rfl rfl (lenOf pd_3 rfl) rfl (W := 0) (Nat.le_of_eq rfl) (by decide) (by decide) (by decide) (by decide) ?_
    intro v19 T19 L19 X19 q19
    obtain ⟨rfl, Nq19, K19, G19_0, G19_1, G19_2, G19_3, G19_4, G19_5⟩ := q19
    have N19 := Fr.app N18 Nq19
    show Go p e below s _ _ _ T19 (mkF m 259 #[.val (.int x1), .val (.int x2), .val (.int x3), .val (.int x4), .val (.long p0), .second, .val (.long p1), .second, .val (.long p2), .second, .val (.long p3), .second, .val (.int kk), .val (.int ct), .val (.long w1), .second, .val (.long d1), .second, .val (.long w2), .second, .val (.long d2), .second, .val (.ref b2), .val (.ref b7), .val (.long pk), .second, .val (.long ex), .second, .val (.ref b16), .unset, .unset, .unset] [])
    refine waload C X19 f0_259 rfl rfl ?_
    refine wdconst1 C X19 f0_261 ?_
    refine wldc2D C X19 (tw_7 hw) f0_262 ?_
    have q28 := (Nat.le_trans (Nat.le_trans (Nat.le_trans q15 E16.1) K18.1) K19.1)
    refine wvirtual C X19 (y := (⟨"com/example/arbor_center/arborcenter/objective/UpperEnvelope", "add", "(DD)V"⟩ : MethodName)) (z := (⟨"com/example/arbor_center/arborcenter/objective/UpperEnvelope", "add", "(DD)V"⟩ : MethodName)) (tw_32 hw) (tw_33 hw) (notFace_of_selects (args := #[]) (mvT C.2.1 (tw_35 hw))) (tw_35 hw) (tw_34 hw) (tw_36 hw) (tw_13 hw) (by decide) (rm6 l Z a0 hw [] b16 FP.dconst1 (4618441417868443648 : UInt64) ph_18 pl_18 k1_18 k2_18 4 [(.double (FP.ddiv FP.dconst0 (4611686018427387904 : UInt64))), (.double (FP.ddiv (4611686018427387904 : UInt64) (4611686018427387904 : UInt64))), (.double (FP.ddiv (4616189618054758400 : UInt64) (4611686018427387904 : UInt64))), (.double (FP.ddiv (4618441417868443648 : UInt64) (4611686018427387904 : UInt64)))] _ (own_P4 0 2 4 6) (own_upd (own_upd (own_upd (own_upd (own_upd (own_upd (own_upd (fun _ => 0) 0 0) 1 0) 2 0) 3 0) 4 0) 5 0) 6 0) (own_upd (own_upd (own_upd (own_upd (own_upd (own_upd (own_upd (fun _ => 0) 0 0) 1 0) 2 0) 3 0) 4 0) 5 0) 6 0) 1 6 T19.heap n0 q28 G19_1 G19_2 G19_3 G19_4 G19_5 (Nat.le_trans Z0 szG18_2) ne24 G18_3 (own_Lz 6 (own_Lz 5 (own_Lz 4 (own_Lz 3 (own_Lz 2 (own_Lz 1 (own_Lz 0 own_Ls0 (by decide) rfl rfl) (by decide) rfl rfl) (by decide) rfl rfl) (by decide) rfl rfl) (by decide) rfl rfl) (by decide) rfl rfl) (by decide) rfl rfl) (own_Ps4 (by decide) (fun _ => own_hv (own_c 0 _ 0 (by decide +kernel) (by decide)) (by decide) (by decide)) (fun _ => own_hv (own_c 2 _ 2 (by decide +kernel) (by decide)) (by decide) (by decide)) (fun _ => own_hv (own_c 4 _ 4 (by decide +kernel) (by decide)) (by decide) (by decide)) (fun _ => own_hv (own_c 6 _ 6 (by decide +kernel) (by decide)) (by decide) (by decide))) (own_mono4 (by decide) (by decide) (by decide) (by decide)) (by decide) (by decide) ⟨own_c 1 _ 1 (by decide +kernel) (by decide), own_c 6 _ 6 (by decide +kernel) (by decide), by decide, by decide, by decide, by decide⟩) rfl (a := b16) G19_0 f0_265 (argsL := [(.double FP.dconst1), (.double (4618441417868443648 : UInt64))]) (rest := []) rfl rfl (lenOf pd_4 rfl) rfl (W := 0) (Nat.le_of_eq rfl) (by decide) (by decide) (by decide) (by decide) ?_
    intro v27 T27 L27 X27 q27
    obtain ⟨ls'_27, W'_27, D'_27, rfl, Nq27, K27, G27_0, G27_1, G27_2⟩ := q27
    have q29 := (Nat.le_trans (Nat.le_trans (Nat.le_trans q17 E16.1) K18.1) K19.1)
    have N27 := Fr.app N19 Nq27
    show Go p e below s _ _ _ T27 (mkF m 268 #[.val (.int x1), .val (.int x2), .val (.int x3), .val (.int x4), .val (.long p0), .second, .val (.long p1), .second, .val (.long p2), .second, .val (.long p3), .second, .val (.int kk), .val (.int ct), .val (.long w1), .second, .val (.long d1), .second, .val (.long w2), .second, .val (.long d2), .second, .val (.ref b2), .val (.ref b7), .val (.long pk), .second, .val (.long ex), .second, .val (.ref b16), .unset, .unset, .unset] [])
    refine waload C X27 f0_268 rfl rfl ?_
    refine wldc2D C X27 (tw_6 hw) f0_270 ?_
    refine wdconst0 C X27 f0_273 ?_
    refine wvirtual C X27 (y := (⟨"com/example/arbor_center/arborcenter/objective/UpperEnvelope", "add", "(DD)V"⟩ : MethodName)) (z := (⟨"com/example/arbor_center/arborcenter/objective/UpperEnvelope", "add", "(DD)V"⟩ : MethodName)) (tw_32 hw) (tw_33 hw) (notFace_of_selects (args := #[]) (mvT C.2.1 (tw_35 hw))) (tw_35 hw) (tw_34 hw) (tw_36 hw) (tw_13 hw) (by decide) (rm6 l Z a0 hw [] b16 (4616189618054758400 : UInt64) FP.dconst0 ph_18 pl_18 k1_18 k2_18 4 [(.double (FP.ddiv FP.dconst0 (4611686018427387904 : UInt64))), (.double (FP.ddiv (4611686018427387904 : UInt64) (4611686018427387904 : UInt64))), (.double (FP.ddiv (4616189618054758400 : UInt64) (4611686018427387904 : UInt64))), (.double (FP.ddiv (4618441417868443648 : UInt64) (4611686018427387904 : UInt64)))] (ls'_27) (own_P4 0 2 4 6) (W'_27) (D'_27) 4 0 T27.heap n0 (Nat.le_trans q28 K27.1) (G19_1.keep K27 (ninS ne24 nin0)) (G19_2.keep K27 (ninS ne24 nin0)) (G19_3.keep K27 (ninS ne24 nin0)) (G19_4.keep K27 (ninS G18_3 nin0)) G27_0 (Nat.le_trans Z0 szG18_2) ne24 G18_3 G27_1 (own_Ps4 (by decide) (fun _ => own_hv (own_c 0 _ 0 (by decide +kernel) (by decide)) (by decide) (by decide)) (fun _ => own_hv (own_c 2 _ 2 (by decide +kernel) (by decide)) (by decide) (by decide)) (fun _ => own_hv (own_c 4 _ 4 (by decide +kernel) (by decide)) (by decide) (by decide)) (fun _ => own_hv (own_c 6 _ 6 (by decide +kernel) (by decide)) (by decide) (by decide))) (own_mono4 (by decide) (by decide) (by decide) (by decide)) (by decide) (by decide) ⟨own_c 4 _ 4 (by decide +kernel) (by decide), own_c 0 _ 0 (by decide +kernel) (by decide), by decide, by decide, by decide, by decide⟩) rfl (a := b16) (G19_0.keep K27) f0_274 (argsL := [(.double (4616189618054758400 : UInt64)), (.double FP.dconst0)]) (rest := []) rfl rfl (lenOf pd_4 rfl) rfl (W := 0) (Nat.le_of_eq rfl) (by decide) (by decide) (by decide) (by decide) ?_
    intro v30 T30 L30 X30 q30
    obtain ⟨ls'_30, W'_30, D'_30, rfl, Nq30, K30, G30_0, G30_1, G30_2⟩ := q30
    have N30 := Fr.app N27 Nq30
    show Go p e below s _ _ _ T30 (mkF m 277 #[.val (.int x1), .val (.int x2), .val (.int x3), .val (.int x4), .val (.long p0), .second, .val (.long p1), .second, .val (.long p2), .second, .val (.long p3), .second, .val (.int kk), .val (.int ct), .val (.long w1), .second, .val (.long d1), .second, .val (.long w2), .second, .val (.long d2), .second, .val (.ref b2), .val (.ref b7), .val (.long pk), .second, .val (.long ex), .second, .val (.ref b16), .unset, .unset, .unset] [])
    refine waload C X30 f0_277 rfl rfl ?_
    refine waload C X30 f0_279 rfl rfl ?_
    refine wiload C X30 f0_281 rfl ?_
    rcases own_split hkk hct with ⟨rfl, rfl⟩ | ⟨rfl, rfl⟩ | ⟨rfl, rfl⟩ | ⟨rfl, rfl⟩ | ⟨rfl, rfl⟩ | ⟨rfl, rfl⟩ | ⟨rfl, rfl⟩ | ⟨rfl, rfl⟩ | ⟨rfl, rfl⟩ | ⟨rfl, rfl⟩
    · obtain rfl : p0 = pk := by
        rcases hpk with ⟨q, r⟩ | ⟨q, r⟩ | ⟨q, r⟩ | ⟨q, r⟩ <;> first | exact r.symm | exact absurd q (by decide)
      have q32 := ((G19_1.keep K27 (ninS ne24 nin0)).keep K30 (ninS ne24 nin0))
      have q33 := ((G19_2.keep K27 (ninS ne24 nin0)).keep K30 (ninS ne24 nin0))
      have q34 := ((G19_3.keep K27 (ninS ne24 nin0)).keep K30 (ninS ne24 nin0))
      have q35 := ((G19_4.keep K27 (ninS G18_3 nin0)).keep K30 (ninS G18_3 nin0))
      have ne36 : b7 ≠ b16 := (Nat.ne_of_lt (Nat.lt_of_lt_of_le (Nat.lt_of_lt_of_eq (Nat.lt_of_lt_of_eq (Nat.lt_of_lt_of_eq (Nat.lt_of_lt_of_eq Vp7.lt W9.size.symm) W10.size.symm) W11.size.symm) W12.size.symm) (Nat.le_of_eq g16.symm)))
      have ne37 : b7 ≠ pl_18 := (Nat.ne_of_lt (Nat.lt_of_lt_of_le (Nat.lt_of_lt_of_le (Nat.lt_of_lt_of_eq (Nat.lt_of_lt_of_eq (Nat.lt_of_lt_of_eq (Nat.lt_of_lt_of_eq Vp7.lt W9.size.symm) W10.size.symm) W11.size.symm) W12.size.symm) E16.1) G18_2))
      have ne38 : b7 ≠ ph_18 := (Nat.ne_of_lt (Nat.lt_of_lt_of_le (Nat.lt_of_lt_of_le (Nat.lt_of_lt_of_eq (Nat.lt_of_lt_of_eq (Nat.lt_of_lt_of_eq (Nat.lt_of_lt_of_eq Vp7.lt W9.size.symm) W10.size.symm) W11.size.symm) W12.size.symm) E16.1) G18_1))
      have q39 := (((((V12.ext E16).keep K18 (ninS ne36 nin0)).keep K19 (ninS ne36 (ninS ne38 (ninS ne37 nin0)))).keep K27 (ninS ne37 nin0)).keep K30 (ninS ne37 nin0))
      refine wvirtual C X30 (y := (⟨"com/example/arbor_center/arborcenter/objective/UpperEnvelope", "reset", "([DI)V"⟩ : MethodName)) (z := (⟨"com/example/arbor_center/arborcenter/objective/UpperEnvelope", "reset", "([DI)V"⟩ : MethodName)) (tw_24 hw) (tw_25 hw) (notFace_of_selects (args := #[]) (mvT C.2.1 (tw_27 hw))) (tw_27 hw) (tw_26 hw) (tw_28 hw) (tw_13 hw) (by decide) (rm5_1 l Z a0 hw [] b16 b7 (1 : Int32) ph_18 pl_18 k1_18 k2_18 k7 (4 : Int32) (ls'_30) (FP.ddiv FP.dconst0 (4611686018427387904 : UInt64)) (FP.ddiv (4611686018427387904 : UInt64) (4611686018427387904 : UInt64)) (FP.ddiv (4616189618054758400 : UInt64) (4611686018427387904 : UInt64)) (FP.ddiv (4618441417868443648 : UInt64) (4611686018427387904 : UInt64)) (FP.l2d p0) (FP.l2d p1) (FP.l2d p2) (FP.l2d p3) T30.heap n0 (Nat.le_trans (Nat.le_trans q28 K27.1) K30.1) ((G19_0.keep K27).keep K30) q32 q33 q34 q35 G30_0 q39 (Nat.le_trans Z0 sz16) (Nat.le_trans Z0 szG18_1) (Nat.le_trans Z0 szG18_2) ne23 ne24 G18_3 ne36 ne38 ne37 rfl G30_1.1 hd_0) rfl (a := b16) ((G19_0.keep K27).keep K30) f0_283 (argsL := [(.ref b7), (.int (1 : Int32))]) (rest := []) rfl rfl (lenOf pd_3 rfl) rfl (W := 0) (Nat.le_of_eq rfl) (by decide) (by decide) (by decide) (by decide) ?_
      intro v31 T31 L31 X31 q31
      obtain ⟨rfl, Nq31, K31, G31_0, G31_1, G31_2, G31_3, G31_4, G31_5⟩ := q31
      have N31 := Fr.app N30 Nq31
      show Go p e below s _ _ _ T31 (mkF m 286 #[.val (.int x1), .val (.int x2), .val (.int x3), .val (.int x4), .val (.long p0), .second, .val (.long p1), .second, .val (.long p2), .second, .val (.long p3), .second, .val (.int (0 : Int32)), .val (.int (1 : Int32)), .val (.long w1), .second, .val (.long d1), .second, .val (.long w2), .second, .val (.long d2), .second, .val (.ref b2), .val (.ref b7), .val (.long p0), .second, .val (.long ex), .second, .val (.ref b16), .unset, .unset, .unset] [])
      refine waload C X31 f0_286 rfl rfl ?_
      refine wiload C X31 f0_288 rfl ?_
      have q41 := (Nat.le_trans (Nat.le_trans (Nat.le_trans q28 K27.1) K30.1) K31.1)
      refine wvirtual C X31 (y := (⟨"com/example/arbor_center/arborcenter/objective/UpperEnvelope", "at", "(I)D"⟩ : MethodName)) (z := (⟨"com/example/arbor_center/arborcenter/objective/UpperEnvelope", "at", "(I)D"⟩ : MethodName)) (tw_37 hw) (tw_38 hw) (notFace_of_selects (args := #[]) (mvT C.2.1 (tw_40 hw))) (tw_40 hw) (tw_39 hw) (tw_41 hw) (tw_13 hw) (by decide) (rm7_1_0 l Z a0 hw [] b16 (0 : Int32) ph_18 pl_18 k1_18 k2_18 [(.double (FP.ddiv (FP.l2d p0) (4611686018427387904 : UInt64))), (.double (FP.ddiv (4611686018427387904 : UInt64) (4611686018427387904 : UInt64))), (.double (FP.ddiv (4616189618054758400 : UInt64) (4611686018427387904 : UInt64))), (.double (FP.ddiv (4618441417868443648 : UInt64) (4611686018427387904 : UInt64)))] _ (own_P4 p0.toInt p1.toInt p2.toInt p3.toInt) (own_upd W'_30 0 0) (own_upd D'_30 0 0) T31.heap n0 q41 G31_1 G31_2 G31_3 G31_4 G31_5 rfl (own_Lz 0 G30_1 (by decide) rfl rfl) (own_Ps4 (by decide) (fun _ => own_l2p hp0 (by decide)) (fun q => absurd q (by decide)) (fun q => absurd q (by decide)) (fun q => absurd q (by decide)))) rfl (a := b16) G31_0 f0_290 (argsL := [(.int (0 : Int32))]) (rest := []) rfl rfl (lenOf pd_5 rfl) rfl (W := 0) (Nat.le_of_eq rfl) (by decide) (by decide) (by decide) (by decide) ?_
      intro v40 T40 L40 X40 q40
      obtain ⟨rv_40, rfl, Nq40, eq40, G40_0⟩ := q40
      have N40 := Fr.app N31 Nq40
      show Go p e below s _ _ _ T40 (mkF m 293 #[.val (.int x1), .val (.int x2), .val (.int x3), .val (.int x4), .val (.long p0), .second, .val (.long p1), .second, .val (.long p2), .second, .val (.long p3), .second, .val (.int (0 : Int32)), .val (.int (1 : Int32)), .val (.long w1), .second, .val (.long d1), .second, .val (.long w2), .second, .val (.long d2), .second, .val (.ref b2), .val (.ref b7), .val (.long p0), .second, .val (.long ex), .second, .val (.ref b16), .unset, .unset, .unset] [(.double rv_40)])
      refine wdconst0 C X40 f0_293 ?_
      refine wdcmp C X40 f0_294 (v := (cmpValue (FP.dcmp rv_40 FP.dconst0) .l)) rfl ?_
      have hz : own_pm 3 0 0 (1 - 1) (own_upd W'_30 0 0) (own_upd D'_30 0 0) ((own_P4 p0.toInt p1.toInt p2.toInt p3.toInt) 0) 0 = 0 := by simp [own_pm, own_upd]
      refine wif_ne C X40 f0_295 ?_ (fun q => absurd ((own_eq G40_0 (own_c 0 _ 0 (by decide +kernel) (by decide)) _).mpr hz) q)
      intro _
      refine wiconst C X40 f0_298 (1 : Int32) rfl ?_
      refine wgoto C X40 f0_299 ?_
      refine wistore C X40 f0_303 #[.val (.int x1), .val (.int x2), .val (.int x3), .val (.int x4), .val (.long p0), .second, .val (.long p1), .second, .val (.long p2), .second, .val (.long p3), .second, .val (.int (0 : Int32)), .val (.int (1 : Int32)), .val (.long w1), .second, .val (.long d1), .second, .val (.long w2), .second, .val (.long d2), .second, .val (.ref b2), .val (.ref b7), .val (.long p0), .second, .val (.long ex), .second, .val (.ref b16), .val (.int (1 : Int32)), .unset, .unset] rfl ?_
      refine waload C X40 f0_305 rfl rfl ?_
      refine wlload C X40 f0_307 rfl ?_
      refine wl2d C X40 f0_309 ?_
      refine wlload C X40 f0_310 rfl ?_
      refine wl2d C X40 f0_312 ?_
      refine wvirtual C X40 (y := (⟨"com/example/arbor_center/arborcenter/objective/UpperEnvelope", "add", "(DD)V"⟩ : MethodName)) (z := (⟨"com/example/arbor_center/arborcenter/objective/UpperEnvelope", "add", "(DD)V"⟩ : MethodName)) (tw_32 hw) (tw_33 hw) (notFace_of_selects (args := #[]) (mvT C.2.1 (tw_35 hw))) (tw_35 hw) (tw_34 hw) (tw_36 hw) (tw_13 hw) (by decide) (rm6 l Z a0 hw [] b16 (FP.l2d w1) (FP.l2d d1) ph_18 pl_18 k1_18 k2_18 1 [(.double (FP.ddiv (FP.l2d p0) (4611686018427387904 : UInt64))), (.double (FP.ddiv (4611686018427387904 : UInt64) (4611686018427387904 : UInt64))), (.double (FP.ddiv (4616189618054758400 : UInt64) (4611686018427387904 : UInt64))), (.double (FP.ddiv (4618441417868443648 : UInt64) (4611686018427387904 : UInt64)))] _ (own_P4 p0.toInt p1.toInt p2.toInt p3.toInt) (own_upd W'_30 0 0) (own_upd D'_30 0 0) w1.toInt d1.toInt T31.heap n0 q41 G31_1 G31_2 G31_3 G31_4 G31_5 (Nat.le_trans Z0 szG18_2) ne24 G18_3 (own_Lz 0 G30_1 (by decide) rfl rfl) (own_Ps4 (by decide) (fun _ => own_l2p hp0 (by decide)) (fun q => absurd q (by decide)) (fun q => absurd q (by decide)) (fun q => absurd q (by decide))) (hm0 _ (by decide)) (by decide) (by decide) (own_wd hw1 hd1)) eq40 (a := b16) G31_0 f0_313 (argsL := [(.double (FP.l2d w1)), (.double (FP.l2d d1))]) (rest := []) rfl rfl (lenOf pd_4 rfl) rfl (W := 0) (Nat.le_of_eq rfl) (by decide) (by decide) (by decide) (by decide) ?_
      intro v42 T42 L42 X42 q42
      obtain ⟨ls'_42, W'_42, D'_42, rfl, Nq42, K42, G42_0, G42_1, G42_2⟩ := q42
      have q43 := (Nat.le_trans (Nat.le_trans (Nat.le_trans q29 K27.1) K30.1) K31.1)
      have N42 := Fr.app N40 Nq42
      show Go p e below s _ _ _ T42 (mkF m 316 #[.val (.int x1), .val (.int x2), .val (.int x3), .val (.int x4), .val (.long p0), .second, .val (.long p1), .second, .val (.long p2), .second, .val (.long p3), .second, .val (.int (0 : Int32)), .val (.int (1 : Int32)), .val (.long w1), .second, .val (.long d1), .second, .val (.long w2), .second, .val (.long d2), .second, .val (.ref b2), .val (.ref b7), .val (.long p0), .second, .val (.long ex), .second, .val (.ref b16), .val (.int (1 : Int32)), .unset, .unset] [])
      refine waload C X42 f0_316 rfl rfl ?_
      refine wlload C X42 f0_318 rfl ?_
      refine wl2d C X42 f0_320 ?_
      refine wlload C X42 f0_321 rfl ?_
      refine wl2d C X42 f0_323 ?_
      refine wvirtual C X42 (y := (⟨"com/example/arbor_center/arborcenter/objective/UpperEnvelope", "add", "(DD)V"⟩ : MethodName)) (z := (⟨"com/example/arbor_center/arborcenter/objective/UpperEnvelope", "add", "(DD)V"⟩ : MethodName)) (tw_32 hw) (tw_33 hw) (notFace_of_selects (args := #[]) (mvT C.2.1 (tw_35 hw))) (tw_35 hw) (tw_34 hw) (tw_36 hw) (tw_13 hw) (by decide) (rm6 l Z a0 hw [] b16 (FP.l2d w2) (FP.l2d d2) ph_18 pl_18 k1_18 k2_18 1 [(.double (FP.ddiv (FP.l2d p0) (4611686018427387904 : UInt64))), (.double (FP.ddiv (4611686018427387904 : UInt64) (4611686018427387904 : UInt64))), (.double (FP.ddiv (4616189618054758400 : UInt64) (4611686018427387904 : UInt64))), (.double (FP.ddiv (4618441417868443648 : UInt64) (4611686018427387904 : UInt64)))] (ls'_42) (own_P4 p0.toInt p1.toInt p2.toInt p3.toInt) (W'_42) (D'_42) w2.toInt d2.toInt T42.heap n0 (Nat.le_trans q41 K42.1) (G31_1.keep K42 (ninS ne24 nin0)) (G31_2.keep K42 (ninS ne24 nin0)) (G31_3.keep K42 (ninS ne24 nin0)) (G31_4.keep K42 (ninS G18_3 nin0)) G42_0 (Nat.le_trans Z0 szG18_2) ne24 G18_3 G42_1 (own_Ps4 (by decide) (fun _ => own_l2p hp0 (by decide)) (fun q => absurd q (by decide)) (fun q => absurd q (by decide)) (fun q => absurd q (by decide))) (hm0 _ (by decide)) (by decide) (by decide) (own_wd hw2 hd2)) rfl (a := b16) (G31_0.keep K42) f0_324 (argsL := [(.double (FP.l2d w2)), (.double (FP.l2d d2))]) (rest := []) rfl rfl (lenOf pd_4 rfl) rfl (W := 0) (Nat.le_of_eq rfl) (by decide) (by decide) (by decide) (by decide) ?_
      intro v44 T44 L44 X44 q44
      obtain ⟨ls'_44, W'_44, D'_44, rfl, Nq44, K44, G44_0, G44_1, G44_2⟩ := q44
      have N44 := Fr.app N42 Nq44
      show Go p e below s _ _ _ T44 (mkF m 327 #[.val (.int x1), .val (.int x2), .val (.int x3), .val (.int x4), .val (.long p0), .second, .val (.long p1), .second, .val (.long p2), .second, .val (.long p3), .second, .val (.int (0 : Int32)), .val (.int (1 : Int32)), .val (.long w1), .second, .val (.long d1), .second, .val (.long w2), .second, .val (.long d2), .second, .val (.ref b2), .val (.ref b7), .val (.long p0), .second, .val (.long ex), .second, .val (.ref b16), .val (.int (1 : Int32)), .unset, .unset] [])
      refine waload C X44 f0_327 rfl rfl ?_
      refine wiload C X44 f0_329 rfl ?_
      have q46 := ((G31_1.keep K42 (ninS ne24 nin0)).keep K44 (ninS ne24 nin0))
      have q47 := ((G31_2.keep K42 (ninS ne24 nin0)).keep K44 (ninS ne24 nin0))
      have q48 := ((G31_3.keep K42 (ninS ne24 nin0)).keep K44 (ninS ne24 nin0))
      have q49 := ((G31_4.keep K42 (ninS G18_3 nin0)).keep K44 (ninS G18_3 nin0))
      refine wvirtual C X44 (y := (⟨"com/example/arbor_center/arborcenter/objective/UpperEnvelope", "at", "(I)D"⟩ : MethodName)) (z := (⟨"com/example/arbor_center/arborcenter/objective/UpperEnvelope", "at", "(I)D"⟩ : MethodName)) (tw_37 hw) (tw_38 hw) (notFace_of_selects (args := #[]) (mvT C.2.1 (tw_40 hw))) (tw_40 hw) (tw_39 hw) (tw_41 hw) (tw_13 hw) (by decide) (rm7_1_0 l Z a0 hw [] b16 (0 : Int32) ph_18 pl_18 k1_18 k2_18 [(.double (FP.ddiv (FP.l2d p0) (4611686018427387904 : UInt64))), (.double (FP.ddiv (4611686018427387904 : UInt64) (4611686018427387904 : UInt64))), (.double (FP.ddiv (4616189618054758400 : UInt64) (4611686018427387904 : UInt64))), (.double (FP.ddiv (4618441417868443648 : UInt64) (4611686018427387904 : UInt64)))] (ls'_44) (own_P4 p0.toInt p1.toInt p2.toInt p3.toInt) (W'_44) (D'_44) T44.heap n0 (Nat.le_trans (Nat.le_trans q41 K42.1) K44.1) q46 q47 q48 q49 G44_0 rfl G44_1 (own_Ps4 (by decide) (fun _ => own_l2p hp0 (by decide)) (fun q => absurd q (by decide)) (fun q => absurd q (by decide)) (fun q => absurd q (by decide)))) rfl (a := b16) ((G31_0.keep K42).keep K44) f0_331 (argsL := [(.int (0 : Int32))]) (rest := []) rfl rfl (lenOf pd_5 rfl) rfl (W := 0) (Nat.le_of_eq rfl) (by decide) (by decide) (by decide) (by decide) ?_
      intro v45 T45 L45 X45 q45
      obtain ⟨rv_45, rfl, Nq45, eq45, G45_0⟩ := q45
      have N45 := Fr.app N44 Nq45
      show Go p e below s _ _ _ T45 (mkF m 334 #[.val (.int x1), .val (.int x2), .val (.int x3), .val (.int x4), .val (.long p0), .second, .val (.long p1), .second, .val (.long p2), .second, .val (.long p3), .second, .val (.int (0 : Int32)), .val (.int (1 : Int32)), .val (.long w1), .second, .val (.long d1), .second, .val (.long w2), .second, .val (.long d2), .second, .val (.ref b2), .val (.ref b7), .val (.long p0), .second, .val (.long ex), .second, .val (.ref b16), .val (.int (1 : Int32)), .unset, .unset] [(.double rv_45)])
      refine wdstore C X45 f0_334 #[.val (.int x1), .val (.int x2), .val (.int x3), .val (.int x4), .val (.long p0), .second, .val (.long p1), .second, .val (.long p2), .second, .val (.long p3), .second, .val (.int (0 : Int32)), .val (.int (1 : Int32)), .val (.long w1), .second, .val (.long d1), .second, .val (.long w2), .second, .val (.long d2), .second, .val (.ref b2), .val (.ref b7), .val (.long p0), .second, .val (.long ex), .second, .val (.ref b16), .val (.int (1 : Int32)), .val (.double rv_45), .second] rfl ?_
      refine wiload C X45 f0_336 rfl ?_
      refine wif_eq C X45 f0_338 (fun q => absurd q (by decide : ¬ ((1 : Int32) = (0 : Int32)))) ?_
      intro _
      refine wdload C X45 f0_341 rfl ?_
      refine wlload C X45 f0_343 rfl ?_
      refine wl2d C X45 f0_345 ?_
      refine wdcmp C X45 f0_346 (v := (cmpValue (FP.dcmp rv_45 (FP.l2d ex)) .l)) rfl ?_
      refine wif_ne C X45 f0_347 ?_ (fun q => absurd ((own_eq G45_0 hexd _).mpr (own_fin (G42_2 0 (by decide)) (G44_2 0 (by decide)) hz m1.2.1 hex)) q)
      intro _
      refine wiconst C X45 f0_350 (1 : Int32) rfl ?_
      refine wgoto C X45 f0_351 ?_
      refine wiretN C X45 (t := .boolean) (by simp) f0_355 rfl (1 : Int32) (by decide) (by decide) (by decide) ?_
      rw [eq45]
      exact ⟨rfl, N45⟩
    · obtain rfl : p0 = pk := by
        rcases hpk with ⟨q, r⟩ | ⟨q, r⟩ | ⟨q, r⟩ | ⟨q, r⟩ <;> first | exact r.symm | exact absurd q (by decide)
      have q51 := ((G19_1.keep K27 (ninS ne24 nin0)).keep K30 (ninS ne24 nin0))
      have q52 := ((G19_2.keep K27 (ninS ne24 nin0)).keep K30 (ninS ne24 nin0))
      have q53 := ((G19_3.keep K27 (ninS ne24 nin0)).keep K30 (ninS ne24 nin0))
      have q54 := ((G19_4.keep K27 (ninS G18_3 nin0)).keep K30 (ninS G18_3 nin0))
      have ne55 : b7 ≠ b16 := (Nat.ne_of_lt (Nat.lt_of_lt_of_le (Nat.lt_of_lt_of_eq (Nat.lt_of_lt_of_eq (Nat.lt_of_lt_of_eq (Nat.lt_of_lt_of_eq Vp7.lt W9.size.symm) W10.size.symm) W11.size.symm) W12.size.symm) (Nat.le_of_eq g16.symm)))
      have ne56 : b7 ≠ pl_18 := (Nat.ne_of_lt (Nat.lt_of_lt_of_le (Nat.lt_of_lt_of_le (Nat.lt_of_lt_of_eq (Nat.lt_of_lt_of_eq (Nat.lt_of_lt_of_eq (Nat.lt_of_lt_of_eq Vp7.lt W9.size.symm) W10.size.symm) W11.size.symm) W12.size.symm) E16.1) G18_2))
      have ne57 : b7 ≠ ph_18 := (Nat.ne_of_lt (Nat.lt_of_lt_of_le (Nat.lt_of_lt_of_le (Nat.lt_of_lt_of_eq (Nat.lt_of_lt_of_eq (Nat.lt_of_lt_of_eq (Nat.lt_of_lt_of_eq Vp7.lt W9.size.symm) W10.size.symm) W11.size.symm) W12.size.symm) E16.1) G18_1))
      have q58 := (((((V12.ext E16).keep K18 (ninS ne55 nin0)).keep K19 (ninS ne55 (ninS ne57 (ninS ne56 nin0)))).keep K27 (ninS ne56 nin0)).keep K30 (ninS ne56 nin0))
      refine wvirtual C X30 (y := (⟨"com/example/arbor_center/arborcenter/objective/UpperEnvelope", "reset", "([DI)V"⟩ : MethodName)) (z := (⟨"com/example/arbor_center/arborcenter/objective/UpperEnvelope", "reset", "([DI)V"⟩ : MethodName)) (tw_24 hw) (tw_25 hw) (notFace_of_selects (args := #[]) (mvT C.2.1 (tw_27 hw))) (tw_27 hw) (tw_26 hw) (tw_28 hw) (tw_13 hw) (by decide) (rm5_2 l Z a0 hw [] b16 b7 (2 : Int32) ph_18 pl_18 k1_18 k2_18 k7 (4 : Int32) (ls'_30) (FP.ddiv FP.dconst0 (4611686018427387904 : UInt64)) (FP.ddiv (4611686018427387904 : UInt64) (4611686018427387904 : UInt64)) (FP.ddiv (4616189618054758400 : UInt64) (4611686018427387904 : UInt64)) (FP.ddiv (4618441417868443648 : UInt64) (4611686018427387904 : UInt64)) (FP.l2d p0) (FP.l2d p1) (FP.l2d p2) (FP.l2d p3) T30.heap n0 (Nat.le_trans (Nat.le_trans q28 K27.1) K30.1) ((G19_0.keep K27).keep K30) q51 q52 q53 q54 G30_0 q58 (Nat.le_trans Z0 sz16) (Nat.le_trans Z0 szG18_1) (Nat.le_trans Z0 szG18_2) ne23 ne24 G18_3 ne55 ne57 ne56 rfl G30_1.1 hd_0 hd_1) rfl (a := b16) ((G19_0.keep K27).keep K30) f0_283 (argsL := [(.ref b7), (.int (2 : Int32))]) (rest := []) rfl rfl (lenOf pd_3 rfl) rfl (W := 0) (Nat.le_of_eq rfl) (by decide) (by decide) (by decide) (by decide) ?_
      intro v50 T50 L50 X50 q50
      obtain ⟨rfl, Nq50, K50, G50_0, G50_1, G50_2, G50_3, G50_4, G50_5⟩ := q50
      have N50 := Fr.app N30 Nq50
      show Go p e below s _ _ _ T50 (mkF m 286 #[.val (.int x1), .val (.int x2), .val (.int x3), .val (.int x4), .val (.long p0), .second, .val (.long p1), .second, .val (.long p2), .second, .val (.long p3), .second, .val (.int (0 : Int32)), .val (.int (2 : Int32)), .val (.long w1), .second, .val (.long d1), .second, .val (.long w2), .second, .val (.long d2), .second, .val (.ref b2), .val (.ref b7), .val (.long p0), .second, .val (.long ex), .second, .val (.ref b16), .unset, .unset, .unset] [])
      refine waload C X50 f0_286 rfl rfl ?_
      refine wiload C X50 f0_288 rfl ?_
      have q60 := (Nat.le_trans (Nat.le_trans (Nat.le_trans q28 K27.1) K30.1) K50.1)
      refine wvirtual C X50 (y := (⟨"com/example/arbor_center/arborcenter/objective/UpperEnvelope", "at", "(I)D"⟩ : MethodName)) (z := (⟨"com/example/arbor_center/arborcenter/objective/UpperEnvelope", "at", "(I)D"⟩ : MethodName)) (tw_37 hw) (tw_38 hw) (notFace_of_selects (args := #[]) (mvT C.2.1 (tw_40 hw))) (tw_40 hw) (tw_39 hw) (tw_41 hw) (tw_13 hw) (by decide) (rm7_2_0 l Z a0 hw [] b16 (0 : Int32) ph_18 pl_18 k1_18 k2_18 [(.double (FP.ddiv (FP.l2d p0) (4611686018427387904 : UInt64))), (.double (FP.ddiv (FP.l2d p1) (4611686018427387904 : UInt64))), (.double (FP.ddiv (4616189618054758400 : UInt64) (4611686018427387904 : UInt64))), (.double (FP.ddiv (4618441417868443648 : UInt64) (4611686018427387904 : UInt64)))] _ (own_P4 p0.toInt p1.toInt p2.toInt p3.toInt) (own_upd (own_upd (own_upd W'_30 0 0) 1 0) 2 0) (own_upd (own_upd (own_upd D'_30 0 0) 1 0) 2 0) T50.heap n0 q60 G50_1 G50_2 G50_3 G50_4 G50_5 rfl (own_Lz 2 (own_Lz 1 (own_Lz 0 G30_1 (by decide) rfl rfl) (by decide) rfl rfl) (by decide) rfl rfl) (own_Ps4 (by decide) (fun _ => own_l2p hp0 (by decide)) (fun _ => own_l2p hp1.2 (by decide)) (fun q => absurd q (by decide)) (fun q => absurd q (by decide)))) rfl (a := b16) G50_0 f0_290 (argsL := [(.int (0 : Int32))]) (rest := []) rfl rfl (lenOf pd_5 rfl) rfl (W := 0) (Nat.le_of_eq rfl) (by decide) (by decide) (by decide) (by decide) ?_
      intro v59 T59 L59 X59 q59
      obtain ⟨rv_59, rfl, Nq59, eq59, G59_0⟩ := q59
      have N59 := Fr.app N50 Nq59
      show Go p e below s _ _ _ T59 (mkF m 293 #[.val (.int x1), .val (.int x2), .val (.int x3), .val (.int x4), .val (.long p0), .second, .val (.long p1), .second, .val (.long p2), .second, .val (.long p3), .second, .val (.int (0 : Int32)), .val (.int (2 : Int32)), .val (.long w1), .second, .val (.long d1), .second, .val (.long w2), .second, .val (.long d2), .second, .val (.ref b2), .val (.ref b7), .val (.long p0), .second, .val (.long ex), .second, .val (.ref b16), .unset, .unset, .unset] [(.double rv_59)])
      refine wdconst0 C X59 f0_293 ?_
      refine wdcmp C X59 f0_294 (v := (cmpValue (FP.dcmp rv_59 FP.dconst0) .l)) rfl ?_
      have hz : own_pm 3 0 0 (2 - 1) (own_upd (own_upd (own_upd W'_30 0 0) 1 0) 2 0) (own_upd (own_upd (own_upd D'_30 0 0) 1 0) 2 0) ((own_P4 p0.toInt p1.toInt p2.toInt p3.toInt) 0) 0 = 0 := by simp [own_pm, own_upd]
      refine wif_ne C X59 f0_295 ?_ (fun q => absurd ((own_eq G59_0 (own_c 0 _ 0 (by decide +kernel) (by decide)) _).mpr hz) q)
      intro _
      refine wiconst C X59 f0_298 (1 : Int32) rfl ?_
      refine wgoto C X59 f0_299 ?_
      refine wistore C X59 f0_303 #[.val (.int x1), .val (.int x2), .val (.int x3), .val (.int x4), .val (.long p0), .second, .val (.long p1), .second, .val (.long p2), .second, .val (.long p3), .second, .val (.int (0 : Int32)), .val (.int (2 : Int32)), .val (.long w1), .second, .val (.long d1), .second, .val (.long w2), .second, .val (.long d2), .second, .val (.ref b2), .val (.ref b7), .val (.long p0), .second, .val (.long ex), .second, .val (.ref b16), .val (.int (1 : Int32)), .unset, .unset] rfl ?_
      refine waload C X59 f0_305 rfl rfl ?_
      refine wlload C X59 f0_307 rfl ?_
      refine wl2d C X59 f0_309 ?_
      refine wlload C X59 f0_310 rfl ?_
      refine wl2d C X59 f0_312 ?_
      refine wvirtual C X59 (y := (⟨"com/example/arbor_center/arborcenter/objective/UpperEnvelope", "add", "(DD)V"⟩ : MethodName)) (z := (⟨"com/example/arbor_center/arborcenter/objective/UpperEnvelope", "add", "(DD)V"⟩ : MethodName)) (tw_32 hw) (tw_33 hw) (notFace_of_selects (args := #[]) (mvT C.2.1 (tw_35 hw))) (tw_35 hw) (tw_34 hw) (tw_36 hw) (tw_13 hw) (by decide) (rm6 l Z a0 hw [] b16 (FP.l2d w1) (FP.l2d d1) ph_18 pl_18 k1_18 k2_18 2 [(.double (FP.ddiv (FP.l2d p0) (4611686018427387904 : UInt64))), (.double (FP.ddiv (FP.l2d p1) (4611686018427387904 : UInt64))), (.double (FP.ddiv (4616189618054758400 : UInt64) (4611686018427387904 : UInt64))), (.double (FP.ddiv (4618441417868443648 : UInt64) (4611686018427387904 : UInt64)))] _ (own_P4 p0.toInt p1.toInt p2.toInt p3.toInt) (own_upd (own_upd (own_upd W'_30 0 0) 1 0) 2 0) (own_upd (own_upd (own_upd D'_30 0 0) 1 0) 2 0) w1.toInt d1.toInt T50.heap n0 q60 G50_1 G50_2 G50_3 G50_4 G50_5 (Nat.le_trans Z0 szG18_2) ne24 G18_3 (own_Lz 2 (own_Lz 1 (own_Lz 0 G30_1 (by decide) rfl rfl) (by decide) rfl rfl) (by decide) rfl rfl) (own_Ps4 (by decide) (fun _ => own_l2p hp0 (by decide)) (fun _ => own_l2p hp1.2 (by decide)) (fun q => absurd q (by decide)) (fun q => absurd q (by decide))) (hm0 _ (by decide)) (by decide) (by decide) (own_wd hw1 hd1)) eq59 (a := b16) G50_0 f0_313 (argsL := [(.double (FP.l2d w1)), (.double (FP.l2d d1))]) (rest := []) rfl rfl (lenOf pd_4 rfl) rfl (W := 0) (Nat.le_of_eq rfl) (by decide) (by decide) (by decide) (by decide) ?_
      intro v61 T61 L61 X61 q61
      obtain ⟨ls'_61, W'_61, D'_61, rfl, Nq61, K61, G61_0, G61_1, G61_2⟩ := q61
      have q62 := (Nat.le_trans (Nat.le_trans (Nat.le_trans q29 K27.1) K30.1) K50.1)
      have N61 := Fr.app N59 Nq61
      show Go p e below s _ _ _ T61 (mkF m 316 #[.val (.int x1), .val (.int x2), .val (.int x3), .val (.int x4), .val (.long p0), .second, .val (.long p1), .second, .val (.long p2), .second, .val (.long p3), .second, .val (.int (0 : Int32)), .val (.int (2 : Int32)), .val (.long w1), .second, .val (.long d1), .second, .val (.long w2), .second, .val (.long d2), .second, .val (.ref b2), .val (.ref b7), .val (.long p0), .second, .val (.long ex), .second, .val (.ref b16), .val (.int (1 : Int32)), .unset, .unset] [])
      refine waload C X61 f0_316 rfl rfl ?_
      refine wlload C X61 f0_318 rfl ?_
      refine wl2d C X61 f0_320 ?_
      refine wlload C X61 f0_321 rfl ?_
      refine wl2d C X61 f0_323 ?_
      refine wvirtual C X61 (y := (⟨"com/example/arbor_center/arborcenter/objective/UpperEnvelope", "add", "(DD)V"⟩ : MethodName)) (z := (⟨"com/example/arbor_center/arborcenter/objective/UpperEnvelope", "add", "(DD)V"⟩ : MethodName)) (tw_32 hw) (tw_33 hw) (notFace_of_selects (args := #[]) (mvT C.2.1 (tw_35 hw))) (tw_35 hw) (tw_34 hw) (tw_36 hw) (tw_13 hw) (by decide) (rm6 l Z a0 hw [] b16 (FP.l2d w2) (FP.l2d d2) ph_18 pl_18 k1_18 k2_18 2 [(.double (FP.ddiv (FP.l2d p0) (4611686018427387904 : UInt64))), (.double (FP.ddiv (FP.l2d p1) (4611686018427387904 : UInt64))), (.double (FP.ddiv (4616189618054758400 : UInt64) (4611686018427387904 : UInt64))), (.double (FP.ddiv (4618441417868443648 : UInt64) (4611686018427387904 : UInt64)))] (ls'_61) (own_P4 p0.toInt p1.toInt p2.toInt p3.toInt) (W'_61) (D'_61) w2.toInt d2.toInt T61.heap n0 (Nat.le_trans q60 K61.1) (G50_1.keep K61 (ninS ne24 nin0)) (G50_2.keep K61 (ninS ne24 nin0)) (G50_3.keep K61 (ninS ne24 nin0)) (G50_4.keep K61 (ninS G18_3 nin0)) G61_0 (Nat.le_trans Z0 szG18_2) ne24 G18_3 G61_1 (own_Ps4 (by decide) (fun _ => own_l2p hp0 (by decide)) (fun _ => own_l2p hp1.2 (by decide)) (fun q => absurd q (by decide)) (fun q => absurd q (by decide))) (hm0 _ (by decide)) (by decide) (by decide) (own_wd hw2 hd2)) rfl (a := b16) (G50_0.keep K61) f0_324 (argsL := [(.double (FP.l2d w2)), (.double (FP.l2d d2))]) (rest := []) rfl rfl (lenOf pd_4 rfl) rfl (W := 0) (Nat.le_of_eq rfl) (by decide) (by decide) (by decide) (by decide) ?_
      intro v63 T63 L63 X63 q63
      obtain ⟨ls'_63, W'_63, D'_63, rfl, Nq63, K63, G63_0, G63_1, G63_2⟩ := q63
      have N63 := Fr.app N61 Nq63
      show Go p e below s _ _ _ T63 (mkF m 327 #[.val (.int x1), .val (.int x2), .val (.int x3), .val (.int x4), .val (.long p0), .second, .val (.long p1), .second, .val (.long p2), .second, .val (.long p3), .second, .val (.int (0 : Int32)), .val (.int (2 : Int32)), .val (.long w1), .second, .val (.long d1), .second, .val (.long w2), .second, .val (.long d2), .second, .val (.ref b2), .val (.ref b7), .val (.long p0), .second, .val (.long ex), .second, .val (.ref b16), .val (.int (1 : Int32)), .unset, .unset] [])
      refine waload C X63 f0_327 rfl rfl ?_
      refine wiload C X63 f0_329 rfl ?_
      have q65 := ((G50_1.keep K61 (ninS ne24 nin0)).keep K63 (ninS ne24 nin0))
      have q66 := ((G50_2.keep K61 (ninS ne24 nin0)).keep K63 (ninS ne24 nin0))
      have q67 := ((G50_3.keep K61 (ninS ne24 nin0)).keep K63 (ninS ne24 nin0))
      have q68 := ((G50_4.keep K61 (ninS G18_3 nin0)).keep K63 (ninS G18_3 nin0))
      refine wvirtual C X63 (y := (⟨"com/example/arbor_center/arborcenter/objective/UpperEnvelope", "at", "(I)D"⟩ : MethodName)) (z := (⟨"com/example/arbor_center/arborcenter/objective/UpperEnvelope", "at", "(I)D"⟩ : MethodName)) (tw_37 hw) (tw_38 hw) (notFace_of_selects (args := #[]) (mvT C.2.1 (tw_40 hw))) (tw_40 hw) (tw_39 hw) (tw_41 hw) (tw_13 hw) (by decide) (rm7_2_0 l Z a0 hw [] b16 (0 : Int32) ph_18 pl_18 k1_18 k2_18 [(.double (FP.ddiv (FP.l2d p0) (4611686018427387904 : UInt64))), (.double (FP.ddiv (FP.l2d p1) (4611686018427387904 : UInt64))), (.double (FP.ddiv (4616189618054758400 : UInt64) (4611686018427387904 : UInt64))), (.double (FP.ddiv (4618441417868443648 : UInt64) (4611686018427387904 : UInt64)))] (ls'_63) (own_P4 p0.toInt p1.toInt p2.toInt p3.toInt) (W'_63) (D'_63) T63.heap n0 (Nat.le_trans (Nat.le_trans q60 K61.1) K63.1) q65 q66 q67 q68 G63_0 rfl G63_1 (own_Ps4 (by decide) (fun _ => own_l2p hp0 (by decide)) (fun _ => own_l2p hp1.2 (by decide)) (fun q => absurd q (by decide)) (fun q => absurd q (by decide)))) rfl (a := b16) ((G50_0.keep K61).keep K63) f0_331 (argsL := [(.int (0 : Int32))]) (rest := []) rfl rfl (lenOf pd_5 rfl) rfl (W := 0) (Nat.le_of_eq rfl) (by decide) (by decide) (by decide) (by decide) ?_
      intro v64 T64 L64 X64 q64
      obtain ⟨rv_64, rfl, Nq64, eq64, G64_0⟩ := q64
      have N64 := Fr.app N63 Nq64
      show Go p e below s _ _ _ T64 (mkF m 334 #[.val (.int x1), .val (.int x2), .val (.int x3), .val (.int x4), .val (.long p0), .second, .val (.long p1), .second, .val (.long p2), .second, .val (.long p3), .second, .val (.int (0 : Int32)), .val (.int (2 : Int32)), .val (.long w1), .second, .val (.long d1), .second, .val (.long w2), .second, .val (.long d2), .second, .val (.ref b2), .val (.ref b7), .val (.long p0), .second, .val (.long ex), .second, .val (.ref b16), .val (.int (1 : Int32)), .unset, .unset] [(.double rv_64)])
      refine wdstore C X64 f0_334 #[.val (.int x1), .val (.int x2), .val (.int x3), .val (.int x4), .val (.long p0), .second, .val (.long p1), .second, .val (.long p2), .second, .val (.long p3), .second, .val (.int (0 : Int32)), .val (.int (2 : Int32)), .val (.long w1), .second, .val (.long d1), .second, .val (.long w2), .second, .val (.long d2), .second, .val (.ref b2), .val (.ref b7), .val (.long p0), .second, .val (.long ex), .second, .val (.ref b16), .val (.int (1 : Int32)), .val (.double rv_64), .second] rfl ?_
      refine wiload C X64 f0_336 rfl ?_
      refine wif_eq C X64 f0_338 (fun q => absurd q (by decide : ¬ ((1 : Int32) = (0 : Int32)))) ?_
      intro _
      refine wdload C X64 f0_341 rfl ?_
      refine wlload C X64 f0_343 rfl ?_
      refine wl2d C X64 f0_345 ?_
      refine wdcmp C X64 f0_346 (v := (cmpValue (FP.dcmp rv_64 (FP.l2d ex)) .l)) rfl ?_
      refine wif_ne C X64 f0_347 ?_ (fun q => absurd ((own_eq G64_0 hexd _).mpr (own_fin (G61_2 0 (by decide)) (G63_2 0 (by decide)) hz m1.2.1 hex)) q)
      intro _
      refine wiconst C X64 f0_350 (1 : Int32) rfl ?_
      refine wgoto C X64 f0_351 ?_
      refine wiretN C X64 (t := .boolean) (by simp) f0_355 rfl (1 : Int32) (by decide) (by decide) (by decide) ?_
      rw [eq64]
      exact ⟨rfl, N64⟩
    · obtain rfl : p1 = pk := by
        rcases hpk with ⟨q, r⟩ | ⟨q, r⟩ | ⟨q, r⟩ | ⟨q, r⟩ <;> first | exact r.symm | exact absurd q (by decide)
      have q70 := ((G19_1.keep K27 (ninS ne24 nin0)).keep K30 (ninS ne24 nin0))
      have q71 := ((G19_2.keep K27 (ninS ne24 nin0)).keep K30 (ninS ne24 nin0))
      have q72 := ((G19_3.keep K27 (ninS ne24 nin0)).keep K30 (ninS ne24 nin0))
      have q73 := ((G19_4.keep K27 (ninS G18_3 nin0)).keep K30 (ninS G18_3 nin0))
      have ne74 : b7 ≠ b16 := (Nat.ne_of_lt (Nat.lt_of_lt_of_le (Nat.lt_of_lt_of_eq (Nat.lt_of_lt_of_eq (Nat.lt_of_lt_of_eq (Nat.lt_of_lt_of_eq Vp7.lt W9.size.symm) W10.size.symm) W11.size.symm) W12.size.symm) (Nat.le_of_eq g16.symm)))
      have ne75 : b7 ≠ pl_18 := (Nat.ne_of_lt (Nat.lt_of_lt_of_le (Nat.lt_of_lt_of_le (Nat.lt_of_lt_of_eq (Nat.lt_of_lt_of_eq (Nat.lt_of_lt_of_eq (Nat.lt_of_lt_of_eq Vp7.lt W9.size.symm) W10.size.symm) W11.size.symm) W12.size.symm) E16.1) G18_2))
      have ne76 : b7 ≠ ph_18 := (Nat.ne_of_lt (Nat.lt_of_lt_of_le (Nat.lt_of_lt_of_le (Nat.lt_of_lt_of_eq (Nat.lt_of_lt_of_eq (Nat.lt_of_lt_of_eq (Nat.lt_of_lt_of_eq Vp7.lt W9.size.symm) W10.size.symm) W11.size.symm) W12.size.symm) E16.1) G18_1))
      have q77 := (((((V12.ext E16).keep K18 (ninS ne74 nin0)).keep K19 (ninS ne74 (ninS ne76 (ninS ne75 nin0)))).keep K27 (ninS ne75 nin0)).keep K30 (ninS ne75 nin0))
      refine wvirtual C X30 (y := (⟨"com/example/arbor_center/arborcenter/objective/UpperEnvelope", "reset", "([DI)V"⟩ : MethodName)) (z := (⟨"com/example/arbor_center/arborcenter/objective/UpperEnvelope", "reset", "([DI)V"⟩ : MethodName)) (tw_24 hw) (tw_25 hw) (notFace_of_selects (args := #[]) (mvT C.2.1 (tw_27 hw))) (tw_27 hw) (tw_26 hw) (tw_28 hw) (tw_13 hw) (by decide) (rm5_2 l Z a0 hw [] b16 b7 (2 : Int32) ph_18 pl_18 k1_18 k2_18 k7 (4 : Int32) (ls'_30) (FP.ddiv FP.dconst0 (4611686018427387904 : UInt64)) (FP.ddiv (4611686018427387904 : UInt64) (4611686018427387904 : UInt64)) (FP.ddiv (4616189618054758400 : UInt64) (4611686018427387904 : UInt64)) (FP.ddiv (4618441417868443648 : UInt64) (4611686018427387904 : UInt64)) (FP.l2d p0) (FP.l2d p1) (FP.l2d p2) (FP.l2d p3) T30.heap n0 (Nat.le_trans (Nat.le_trans q28 K27.1) K30.1) ((G19_0.keep K27).keep K30) q70 q71 q72 q73 G30_0 q77 (Nat.le_trans Z0 sz16) (Nat.le_trans Z0 szG18_1) (Nat.le_trans Z0 szG18_2) ne23 ne24 G18_3 ne74 ne76 ne75 rfl G30_1.1 hd_0 hd_1) rfl (a := b16) ((G19_0.keep K27).keep K30) f0_283 (argsL := [(.ref b7), (.int (2 : Int32))]) (rest := []) rfl rfl (lenOf pd_3 rfl) rfl (W := 0) (Nat.le_of_eq rfl) (by decide) (by decide) (by decide) (by decide) ?_
      intro v69 T69 L69 X69 q69
      obtain ⟨rfl, Nq69, K69, G69_0, G69_1, G69_2, G69_3, G69_4, G69_5⟩ := q69
      have N69 := Fr.app N30 Nq69
      show Go p e below s _ _ _ T69 (mkF m 286 #[.val (.int x1), .val (.int x2), .val (.int x3), .val (.int x4), .val (.long p0), .second, .val (.long p1), .second, .val (.long p2), .second, .val (.long p3), .second, .val (.int (1 : Int32)), .val (.int (2 : Int32)), .val (.long w1), .second, .val (.long d1), .second, .val (.long w2), .second, .val (.long d2), .second, .val (.ref b2), .val (.ref b7), .val (.long p1), .second, .val (.long ex), .second, .val (.ref b16), .unset, .unset, .unset] [])
      refine waload C X69 f0_286 rfl rfl ?_
      refine wiload C X69 f0_288 rfl ?_
      have q79 := (Nat.le_trans (Nat.le_trans (Nat.le_trans q28 K27.1) K30.1) K69.1)
      refine wvirtual C X69 (y := (⟨"com/example/arbor_center/arborcenter/objective/UpperEnvelope", "at", "(I)D"⟩ : MethodName)) (z := (⟨"com/example/arbor_center/arborcenter/objective/UpperEnvelope", "at", "(I)D"⟩ : MethodName)) (tw_37 hw) (tw_38 hw) (notFace_of_selects (args := #[]) (mvT C.2.1 (tw_40 hw))) (tw_40 hw) (tw_39 hw) (tw_41 hw) (tw_13 hw) (by decide) (rm7_2_1 l Z a0 hw [] b16 (1 : Int32) ph_18 pl_18 k1_18 k2_18 [(.double (FP.ddiv (FP.l2d p0) (4611686018427387904 : UInt64))), (.double (FP.ddiv (FP.l2d p1) (4611686018427387904 : UInt64))), (.double (FP.ddiv (4616189618054758400 : UInt64) (4611686018427387904 : UInt64))), (.double (FP.ddiv (4618441417868443648 : UInt64) (4611686018427387904 : UInt64)))] _ (own_P4 p0.toInt p1.toInt p2.toInt p3.toInt) (own_upd (own_upd (own_upd W'_30 0 0) 1 0) 2 0) (own_upd (own_upd (own_upd D'_30 0 0) 1 0) 2 0) T69.heap n0 q79 G69_1 G69_2 G69_3 G69_4 G69_5 rfl (own_Lz 2 (own_Lz 1 (own_Lz 0 G30_1 (by decide) rfl rfl) (by decide) rfl rfl) (by decide) rfl rfl) (own_Ps4 (by decide) (fun _ => own_l2p hp0 (by decide)) (fun _ => own_l2p hp1.2 (by decide)) (fun q => absurd q (by decide)) (fun q => absurd q (by decide)))) rfl (a := b16) G69_0 f0_290 (argsL := [(.int (1 : Int32))]) (rest := []) rfl rfl (lenOf pd_5 rfl) rfl (W := 0) (Nat.le_of_eq rfl) (by decide) (by decide) (by decide) (by decide) ?_
      intro v78 T78 L78 X78 q78
      obtain ⟨rv_78, rfl, Nq78, eq78, G78_0⟩ := q78
      have N78 := Fr.app N69 Nq78
      show Go p e below s _ _ _ T78 (mkF m 293 #[.val (.int x1), .val (.int x2), .val (.int x3), .val (.int x4), .val (.long p0), .second, .val (.long p1), .second, .val (.long p2), .second, .val (.long p3), .second, .val (.int (1 : Int32)), .val (.int (2 : Int32)), .val (.long w1), .second, .val (.long d1), .second, .val (.long w2), .second, .val (.long d2), .second, .val (.ref b2), .val (.ref b7), .val (.long p1), .second, .val (.long ex), .second, .val (.ref b16), .unset, .unset, .unset] [(.double rv_78)])
      refine wdconst0 C X78 f0_293 ?_
      refine wdcmp C X78 f0_294 (v := (cmpValue (FP.dcmp rv_78 FP.dconst0) .l)) rfl ?_
      have hz : own_pm 3 0 0 (2 - 1) (own_upd (own_upd (own_upd W'_30 0 0) 1 0) 2 0) (own_upd (own_upd (own_upd D'_30 0 0) 1 0) 2 0) ((own_P4 p0.toInt p1.toInt p2.toInt p3.toInt) 1) 1 = 0 := by simp [own_pm, own_upd]
      refine wif_ne C X78 f0_295 ?_ (fun q => absurd ((own_eq G78_0 (own_c 0 _ 0 (by decide +kernel) (by decide)) _).mpr hz) q)
      intro _
      refine wiconst C X78 f0_298 (1 : Int32) rfl ?_
      refine wgoto C X78 f0_299 ?_
      refine wistore C X78 f0_303 #[.val (.int x1), .val (.int x2), .val (.int x3), .val (.int x4), .val (.long p0), .second, .val (.long p1), .second, .val (.long p2), .second, .val (.long p3), .second, .val (.int (1 : Int32)), .val (.int (2 : Int32)), .val (.long w1), .second, .val (.long d1), .second, .val (.long w2), .second, .val (.long d2), .second, .val (.ref b2), .val (.ref b7), .val (.long p1), .second, .val (.long ex), .second, .val (.ref b16), .val (.int (1 : Int32)), .unset, .unset] rfl ?_
      refine waload C X78 f0_305 rfl rfl ?_
      refine wlload C X78 f0_307 rfl ?_
      refine wl2d C X78 f0_309 ?_
      refine wlload C X78 f0_310 rfl ?_
      refine wl2d C X78 f0_312 ?_
      refine wvirtual C X78 (y := (⟨"com/example/arbor_center/arborcenter/objective/UpperEnvelope", "add", "(DD)V"⟩ : MethodName)) (z := (⟨"com/example/arbor_center/arborcenter/objective/UpperEnvelope", "add", "(DD)V"⟩ : MethodName)) (tw_32 hw) (tw_33 hw) (notFace_of_selects (args := #[]) (mvT C.2.1 (tw_35 hw))) (tw_35 hw) (tw_34 hw) (tw_36 hw) (tw_13 hw) (by decide) (rm6 l Z a0 hw [] b16 (FP.l2d w1) (FP.l2d d1) ph_18 pl_18 k1_18 k2_18 2 [(.double (FP.ddiv (FP.l2d p0) (4611686018427387904 : UInt64))), (.double (FP.ddiv (FP.l2d p1) (4611686018427387904 : UInt64))), (.double (FP.ddiv (4616189618054758400 : UInt64) (4611686018427387904 : UInt64))), (.double (FP.ddiv (4618441417868443648 : UInt64) (4611686018427387904 : UInt64)))] _ (own_P4 p0.toInt p1.toInt p2.toInt p3.toInt) (own_upd (own_upd (own_upd W'_30 0 0) 1 0) 2 0) (own_upd (own_upd (own_upd D'_30 0 0) 1 0) 2 0) w1.toInt d1.toInt T69.heap n0 q79 G69_1 G69_2 G69_3 G69_4 G69_5 (Nat.le_trans Z0 szG18_2) ne24 G18_3 (own_Lz 2 (own_Lz 1 (own_Lz 0 G30_1 (by decide) rfl rfl) (by decide) rfl rfl) (by decide) rfl rfl) (own_Ps4 (by decide) (fun _ => own_l2p hp0 (by decide)) (fun _ => own_l2p hp1.2 (by decide)) (fun q => absurd q (by decide)) (fun q => absurd q (by decide))) (hm0 _ (by decide)) (by decide) (by decide) (own_wd hw1 hd1)) eq78 (a := b16) G69_0 f0_313 (argsL := [(.double (FP.l2d w1)), (.double (FP.l2d d1))]) (rest := []) rfl rfl (lenOf pd_4 rfl) rfl (W := 0) (Nat.le_of_eq rfl) (by decide) (by decide) (by decide) (by decide) ?_
      intro v80 T80 L80 X80 q80
      obtain ⟨ls'_80, W'_80, D'_80, rfl, Nq80, K80, G80_0, G80_1, G80_2⟩ := q80
      have q81 := (Nat.le_trans (Nat.le_trans (Nat.le_trans q29 K27.1) K30.1) K69.1)
      have N80 := Fr.app N78 Nq80
      show Go p e below s _ _ _ T80 (mkF m 316 #[.val (.int x1), .val (.int x2), .val (.int x3), .val (.int x4), .val (.long p0), .second, .val (.long p1), .second, .val (.long p2), .second, .val (.long p3), .second, .val (.int (1 : Int32)), .val (.int (2 : Int32)), .val (.long w1), .second, .val (.long d1), .second, .val (.long w2), .second, .val (.long d2), .second, .val (.ref b2), .val (.ref b7), .val (.long p1), .second, .val (.long ex), .second, .val (.ref b16), .val (.int (1 : Int32)), .unset, .unset] [])
      refine waload C X80 f0_316 rfl rfl ?_
      refine wlload C X80 f0_318 rfl ?_
      refine wl2d C X80 f0_320 ?_
      refine wlload C X80 f0_321 rfl ?_
      refine wl2d C X80 f0_323 ?_
      refine wvirtual C X80 (y := (⟨"com/example/arbor_center/arborcenter/objective/UpperEnvelope", "add", "(DD)V"⟩ : MethodName)) (z := (⟨"com/example/arbor_center/arborcenter/objective/UpperEnvelope", "add", "(DD)V"⟩ : MethodName)) (tw_32 hw) (tw_33 hw) (notFace_of_selects (args := #[]) (mvT C.2.1 (tw_35 hw))) (tw_35 hw) (tw_34 hw) (tw_36 hw) (tw_13 hw) (by decide) (rm6 l Z a0 hw [] b16 (FP.l2d w2) (FP.l2d d2) ph_18 pl_18 k1_18 k2_18 2 [(.double (FP.ddiv (FP.l2d p0) (4611686018427387904 : UInt64))), (.double (FP.ddiv (FP.l2d p1) (4611686018427387904 : UInt64))), (.double (FP.ddiv (4616189618054758400 : UInt64) (4611686018427387904 : UInt64))), (.double (FP.ddiv (4618441417868443648 : UInt64) (4611686018427387904 : UInt64)))] (ls'_80) (own_P4 p0.toInt p1.toInt p2.toInt p3.toInt) (W'_80) (D'_80) w2.toInt d2.toInt T80.heap n0 (Nat.le_trans q79 K80.1) (G69_1.keep K80 (ninS ne24 nin0)) (G69_2.keep K80 (ninS ne24 nin0)) (G69_3.keep K80 (ninS ne24 nin0)) (G69_4.keep K80 (ninS G18_3 nin0)) G80_0 (Nat.le_trans Z0 szG18_2) ne24 G18_3 G80_1 (own_Ps4 (by decide) (fun _ => own_l2p hp0 (by decide)) (fun _ => own_l2p hp1.2 (by decide)) (fun q => absurd q (by decide)) (fun q => absurd q (by decide))) (hm0 _ (by decide)) (by decide) (by decide) (own_wd hw2 hd2)) rfl (a := b16) (G69_0.keep K80) f0_324 (argsL := [(.double (FP.l2d w2)), (.double (FP.l2d d2))]) (rest := []) rfl rfl (lenOf pd_4 rfl) rfl (W := 0) (Nat.le_of_eq rfl) (by decide) (by decide) (by decide) (by decide) ?_
      intro v82 T82 L82 X82 q82
      obtain ⟨ls'_82, W'_82, D'_82, rfl, Nq82, K82, G82_0, G82_1, G82_2⟩ := q82
      have N82 := Fr.app N80 Nq82
      show Go p e below s _ _ _ T82 (mkF m 327 #[.val (.int x1), .val (.int x2), .val (.int x3), .val (.int x4), .val (.long p0), .second, .val (.long p1), .second, .val (.long p2), .second, .val (.long p3), .second, .val (.int (1 : Int32)), .val (.int (2 : Int32)), .val (.long w1), .second, .val (.long d1), .second, .val (.long w2), .second, .val (.long d2), .second, .val (.ref b2), .val (.ref b7), .val (.long p1), .second, .val (.long ex), .second, .val (.ref b16), .val (.int (1 : Int32)), .unset, .unset] [])
      refine waload C X82 f0_327 rfl rfl ?_
      refine wiload C X82 f0_329 rfl ?_
      have q84 := ((G69_1.keep K80 (ninS ne24 nin0)).keep K82 (ninS ne24 nin0))
      have q85 := ((G69_2.keep K80 (ninS ne24 nin0)).keep K82 (ninS ne24 nin0))
      have q86 := ((G69_3.keep K80 (ninS ne24 nin0)).keep K82 (ninS ne24 nin0))
      have q87 := ((G69_4.keep K80 (ninS G18_3 nin0)).keep K82 (ninS G18_3 nin0))
      refine wvirtual C X82 (y := (⟨"com/example/arbor_center/arborcenter/objective/UpperEnvelope", "at", "(I)D"⟩ : MethodName)) (z := (⟨"com/example/arbor_center/arborcenter/objective/UpperEnvelope", "at", "(I)D"⟩ : MethodName)) (tw_37 hw) (tw_38 hw) (notFace_of_selects (args := #[]) (mvT C.2.1 (tw_40 hw))) (tw_40 hw) (tw_39 hw) (tw_41 hw) (tw_13 hw) (by decide) (rm7_2_1 l Z a0 hw [] b16 (1 : Int32) ph_18 pl_18 k1_18 k2_18 [(.double (FP.ddiv (FP.l2d p0) (4611686018427387904 : UInt64))), (.double (FP.ddiv (FP.l2d p1) (4611686018427387904 : UInt64))), (.double (FP.ddiv (4616189618054758400 : UInt64) (4611686018427387904 : UInt64))), (.double (FP.ddiv (4618441417868443648 : UInt64) (4611686018427387904 : UInt64)))] (ls'_82) (own_P4 p0.toInt p1.toInt p2.toInt p3.toInt) (W'_82) (D'_82) T82.heap n0 (Nat.le_trans (Nat.le_trans q79 K80.1) K82.1) q84 q85 q86 q87 G82_0 rfl G82_1 (own_Ps4 (by decide) (fun _ => own_l2p hp0 (by decide)) (fun _ => own_l2p hp1.2 (by decide)) (fun q => absurd q (by decide)) (fun q => absurd q (by decide)))) rfl (a := b16) ((G69_0.keep K80).keep K82) f0_331 (argsL := [(.int (1 : Int32))]) (rest := []) rfl rfl (lenOf pd_5 rfl) rfl (W := 0) (Nat.le_of_eq rfl) (by decide) (by decide) (by decide) (by decide) ?_
      intro v83 T83 L83 X83 q83
      obtain ⟨rv_83, rfl, Nq83, eq83, G83_0⟩ := q83
      have N83 := Fr.app N82 Nq83
      show Go p e below s _ _ _ T83 (mkF m 334 #[.val (.int x1), .val (.int x2), .val (.int x3), .val (.int x4), .val (.long p0), .second, .val (.long p1), .second, .val (.long p2), .second, .val (.long p3), .second, .val (.int (1 : Int32)), .val (.int (2 : Int32)), .val (.long w1), .second, .val (.long d1), .second, .val (.long w2), .second, .val (.long d2), .second, .val (.ref b2), .val (.ref b7), .val (.long p1), .second, .val (.long ex), .second, .val (.ref b16), .val (.int (1 : Int32)), .unset, .unset] [(.double rv_83)])
      refine wdstore C X83 f0_334 #[.val (.int x1), .val (.int x2), .val (.int x3), .val (.int x4), .val (.long p0), .second, .val (.long p1), .second, .val (.long p2), .second, .val (.long p3), .second, .val (.int (1 : Int32)), .val (.int (2 : Int32)), .val (.long w1), .second, .val (.long d1), .second, .val (.long w2), .second, .val (.long d2), .second, .val (.ref b2), .val (.ref b7), .val (.long p1), .second, .val (.long ex), .second, .val (.ref b16), .val (.int (1 : Int32)), .val (.double rv_83), .second] rfl ?_
      refine wiload C X83 f0_336 rfl ?_
      refine wif_eq C X83 f0_338 (fun q => absurd q (by decide : ¬ ((1 : Int32) = (0 : Int32)))) ?_
      intro _
      refine wdload C X83 f0_341 rfl ?_
      refine wlload C X83 f0_343 rfl ?_
      refine wl2d C X83 f0_345 ?_
      refine wdcmp C X83 f0_346 (v := (cmpValue (FP.dcmp rv_83 (FP.l2d ex)) .l)) rfl ?_
      refine wif_ne C X83 f0_347 ?_ (fun q => absurd ((own_eq G83_0 hexd _).mpr (own_fin (G80_2 1 (by decide)) (G82_2 1 (by decide)) hz m1.2.1 hex)) q)
      intro _
      refine wiconst C X83 f0_350 (1 : Int32) rfl ?_
      refine wgoto C X83 f0_351 ?_
      refine wiretN C X83 (t := .boolean) (by simp) f0_355 rfl (1 : Int32) (by decide) (by decide) (by decide) ?_
      rw [eq83]
      exact ⟨rfl, N83⟩
    · obtain rfl : p0 = pk := by
        rcases hpk with ⟨q, r⟩ | ⟨q, r⟩ | ⟨q, r⟩ | ⟨q, r⟩ <;> first | exact r.symm | exact absurd q (by decide)
      have q89 := ((G19_1.keep K27 (ninS ne24 nin0)).keep K30 (ninS ne24 nin0))
      have q90 := ((G19_2.keep K27 (ninS ne24 nin0)).keep K30 (ninS ne24 nin0))
      have q91 := ((G19_3.keep K27 (ninS ne24 nin0)).keep K30 (ninS ne24 nin0))
      have q92 := ((G19_4.keep K27 (ninS G18_3 nin0)).keep K30 (ninS G18_3 nin0))
      have ne93 : b7 ≠ b16 := (Nat.ne_of_lt (Nat.lt_of_lt_of_le (Nat.lt_of_lt_of_eq (Nat.lt_of_lt_of_eq (Nat.lt_of_lt_of_eq (Nat.lt_of_lt_of_eq Vp7.lt W9.size.symm) W10.size.symm) W11.size.symm) W12.size.symm) (Nat.le_of_eq g16.symm)))
      have ne94 : b7 ≠ pl_18 := (Nat.ne_of_lt (Nat.lt_of_lt_of_le (Nat.lt_of_lt_of_le (Nat.lt_of_lt_of_eq (Nat.lt_of_lt_of_eq (Nat.lt_of_lt_of_eq (Nat.lt_of_lt_of_eq Vp7.lt W9.size.symm) W10.size.symm) W11.size.symm) W12.size.symm) E16.1) G18_2))
      have ne95 : b7 ≠ ph_18 := (Nat.ne_of_lt (Nat.lt_of_lt_of_le (Nat.lt_of_lt_of_le (Nat.lt_of_lt_of_eq (Nat.lt_of_lt_of_eq (Nat.lt_of_lt_of_eq (Nat.lt_of_lt_of_eq Vp7.lt W9.size.symm) W10.size.symm) W11.size.symm) W12.size.symm) E16.1) G18_1))
      have q96 := (((((V12.ext E16).keep K18 (ninS ne93 nin0)).keep K19 (ninS ne93 (ninS ne95 (ninS ne94 nin0)))).keep K27 (ninS ne94 nin0)).keep K30 (ninS ne94 nin0))
      refine wvirtual C X30 (y := (⟨"com/example/arbor_center/arborcenter/objective/UpperEnvelope", "reset", "([DI)V"⟩ : MethodName)) (z := (⟨"com/example/arbor_center/arborcenter/objective/UpperEnvelope", "reset", "([DI)V"⟩ : MethodName)) (tw_24 hw) (tw_25 hw) (notFace_of_selects (args := #[]) (mvT C.2.1 (tw_27 hw))) (tw_27 hw) (tw_26 hw) (tw_28 hw) (tw_13 hw) (by decide) (rm5_3 l Z a0 hw [] b16 b7 (3 : Int32) ph_18 pl_18 k1_18 k2_18 k7 (4 : Int32) (ls'_30) (FP.ddiv FP.dconst0 (4611686018427387904 : UInt64)) (FP.ddiv (4611686018427387904 : UInt64) (4611686018427387904 : UInt64)) (FP.ddiv (4616189618054758400 : UInt64) (4611686018427387904 : UInt64)) (FP.ddiv (4618441417868443648 : UInt64) (4611686018427387904 : UInt64)) (FP.l2d p0) (FP.l2d p1) (FP.l2d p2) (FP.l2d p3) T30.heap n0 (Nat.le_trans (Nat.le_trans q28 K27.1) K30.1) ((G19_0.keep K27).keep K30) q89 q90 q91 q92 G30_0 q96 (Nat.le_trans Z0 sz16) (Nat.le_trans Z0 szG18_1) (Nat.le_trans Z0 szG18_2) ne23 ne24 G18_3 ne93 ne95 ne94 rfl G30_1.1 hd_0 hd_1 hd_2) rfl (a := b16) ((G19_0.keep K27).keep K30) f0_283 (argsL := [(.ref b7), (.int (3 : Int32))]) (rest := []) rfl rfl (lenOf pd_3 rfl) rfl (W := 0) (Nat.le_of_eq rfl) (by decide) (by decide) (by decide) (by decide) ?_
      intro v88 T88 L88 X88 q88
      obtain ⟨rfl, Nq88, K88, G88_0, G88_1, G88_2, G88_3, G88_4, G88_5⟩ := q88
      have N88 := Fr.app N30 Nq88
      show Go p e below s _ _ _ T88 (mkF m 286 #[.val (.int x1), .val (.int x2), .val (.int x3), .val (.int x4), .val (.long p0), .second, .val (.long p1), .second, .val (.long p2), .second, .val (.long p3), .second, .val (.int (0 : Int32)), .val (.int (3 : Int32)), .val (.long w1), .second, .val (.long d1), .second, .val (.long w2), .second, .val (.long d2), .second, .val (.ref b2), .val (.ref b7), .val (.long p0), .second, .val (.long ex), .second, .val (.ref b16), .unset, .unset, .unset] [])
      refine waload C X88 f0_286 rfl rfl ?_
      refine wiload C X88 f0_288 rfl ?_
      have q98 := (Nat.le_trans (Nat.le_trans (Nat.le_trans q28 K27.1) K30.1) K88.1)
      refine wvirtual C X88 (y := (⟨"com/example/arbor_center/arborcenter/objective/UpperEnvelope", "at", "(I)D"⟩ : MethodName)) (z := (⟨"com/example/arbor_center/arborcenter/objective/UpperEnvelope", "at", "(I)D"⟩ : MethodName)) (tw_37 hw) (tw_38 hw) (notFace_of_selects (args := #[]) (mvT C.2.1 (tw_40 hw))) (tw_40 hw) (tw_39 hw) (tw_41 hw) (tw_13 hw) (by decide) (rm7_3_0 l Z a0 hw [] b16 (0 : Int32) ph_18 pl_18 k1_18 k2_18 [(.double (FP.ddiv (FP.l2d p0) (4611686018427387904 : UInt64))), (.double (FP.ddiv (FP.l2d p1) (4611686018427387904 : UInt64))), (.double (FP.ddiv (FP.l2d p2) (4611686018427387904 : UInt64))), (.double (FP.ddiv (4618441417868443648 : UInt64) (4611686018427387904 : UInt64)))] _ (own_P4 p0.toInt p1.toInt p2.toInt p3.toInt) (own_upd (own_upd (own_upd (own_upd (own_upd W'_30 0 0) 1 0) 2 0) 3 0) 4 0) (own_upd (own_upd (own_upd (own_upd (own_upd D'_30 0 0) 1 0) 2 0) 3 0) 4 0) T88.heap n0 q98 G88_1 G88_2 G88_3 G88_4 G88_5 rfl (own_Lz 4 (own_Lz 3 (own_Lz 2 (own_Lz 1 (own_Lz 0 G30_1 (by decide) rfl rfl) (by decide) rfl rfl) (by decide) rfl rfl) (by decide) rfl rfl) (by decide) rfl rfl) (own_Ps4 (by decide) (fun _ => own_l2p hp0 (by decide)) (fun _ => own_l2p hp1.2 (by decide)) (fun _ => own_l2p hp2.2 (by decide)) (fun q => absurd q (by decide)))) rfl (a := b16) G88_0 f0_290 (argsL := [(.int (0 : Int32))]) (rest := []) rfl rfl (lenOf pd_5 rfl) rfl (W := 0) (Nat.le_of_eq rfl) (by decide) (by decide) (by decide) (by decide) ?_
      intro v97 T97 L97 X97 q97
      obtain ⟨rv_97, rfl, Nq97, eq97, G97_0⟩ := q97
      have N97 := Fr.app N88 Nq97
      show Go p e below s _ _ _ T97 (mkF m 293 #[.val (.int x1), .val (.int x2), .val (.int x3), .val (.int x4), .val (.long p0), .second, .val (.long p1), .second, .val (.long p2), .second, .val (.long p3), .second, .val (.int (0 : Int32)), .val (.int (3 : Int32)), .val (.long w1), .second, .val (.long d1), .second, .val (.long w2), .second, .val (.long d2), .second, .val (.ref b2), .val (.ref b7), .val (.long p0), .second, .val (.long ex), .second, .val (.ref b16), .unset, .unset, .unset] [(.double rv_97)])
      refine wdconst0 C X97 f0_293 ?_
      refine wdcmp C X97 f0_294 (v := (cmpValue (FP.dcmp rv_97 FP.dconst0) .l)) rfl ?_
      have hz : own_pm 3 0 0 (3 - 1) (own_upd (own_upd (own_upd (own_upd (own_upd W'_30 0 0) 1 0) 2 0) 3 0) 4 0) (own_upd (own_upd (own_upd (own_upd (own_upd D'_30 0 0) 1 0) 2 0) 3 0) 4 0) ((own_P4 p0.toInt p1.toInt p2.toInt p3.toInt) 0) 0 = 0 := by simp [own_pm, own_upd]
      refine wif_ne C X97 f0_295 ?_ (fun q => absurd ((own_eq G97_0 (own_c 0 _ 0 (by decide +kernel) (by decide)) _).mpr hz) q)
      intro _
      refine wiconst C X97 f0_298 (1 : Int32) rfl ?_
      refine wgoto C X97 f0_299 ?_
      refine wistore C X97 f0_303 #[.val (.int x1), .val (.int x2), .val (.int x3), .val (.int x4), .val (.long p0), .second, .val (.long p1), .second, .val (.long p2), .second, .val (.long p3), .second, .val (.int (0 : Int32)), .val (.int (3 : Int32)), .val (.long w1), .second, .val (.long d1), .second, .val (.long w2), .second, .val (.long d2), .second, .val (.ref b2), .val (.ref b7), .val (.long p0), .second, .val (.long ex), .second, .val (.ref b16), .val (.int (1 : Int32)), .unset, .unset] rfl ?_
      refine waload C X97 f0_305 rfl rfl ?_
      refine wlload C X97 f0_307 rfl ?_
      refine wl2d C X97 f0_309 ?_
      refine wlload C X97 f0_310 rfl ?_
      refine wl2d C X97 f0_312 ?_
      refine wvirtual C X97 (y := (⟨"com/example/arbor_center/arborcenter/objective/UpperEnvelope", "add", "(DD)V"⟩ : MethodName)) (z := (⟨"com/example/arbor_center/arborcenter/objective/UpperEnvelope", "add", "(DD)V"⟩ : MethodName)) (tw_32 hw) (tw_33 hw) (notFace_of_selects (args := #[]) (mvT C.2.1 (tw_35 hw))) (tw_35 hw) (tw_34 hw) (tw_36 hw) (tw_13 hw) (by decide) (rm6 l Z a0 hw [] b16 (FP.l2d w1) (FP.l2d d1) ph_18 pl_18 k1_18 k2_18 3 [(.double (FP.ddiv (FP.l2d p0) (4611686018427387904 : UInt64))), (.double (FP.ddiv (FP.l2d p1) (4611686018427387904 : UInt64))), (.double (FP.ddiv (FP.l2d p2) (4611686018427387904 : UInt64))), (.double (FP.ddiv (4618441417868443648 : UInt64) (4611686018427387904 : UInt64)))] _ (own_P4 p0.toInt p1.toInt p2.toInt p3.toInt) (own_upd (own_upd (own_upd (own_upd (own_upd W'_30 0 0) 1 0) 2 0) 3 0) 4 0) (own_upd (own_upd (own_upd (own_upd (own_upd D'_30 0 0) 1 0) 2 0) 3 0) 4 0) w1.toInt d1.toInt T88.heap n0 q98 G88_1 G88_2 G88_3 G88_4 G88_5 (Nat.le_trans Z0 szG18_2) ne24 G18_3 (own_Lz 4 (own_Lz 3 (own_Lz 2 (own_Lz 1 (own_Lz 0 G30_1 (by decide) rfl rfl) (by decide) rfl rfl) (by decide) rfl rfl) (by decide) rfl rfl) (by decide) rfl rfl) (own_Ps4 (by decide) (fun _ => own_l2p hp0 (by decide)) (fun _ => own_l2p hp1.2 (by decide)) (fun _ => own_l2p hp2.2 (by decide)) (fun q => absurd q (by decide))) (hm0 _ (by decide)) (by decide) (by decide) (own_wd hw1 hd1)) eq97 (a := b16) G88_0 f0_313 (argsL := [(.double (FP.l2d w1)), (.double (FP.l2d d1))]) (rest := []) rfl rfl (lenOf pd_4 rfl) rfl (W := 0) (Nat.le_of_eq rfl) (by decide) (by decide) (by decide) (by decide) ?_
      intro v99 T99 L99 X99 q99
      obtain ⟨ls'_99, W'_99, D'_99, rfl, Nq99, K99, G99_0, G99_1, G99_2⟩ := q99
      have q100 := (Nat.le_trans (Nat.le_trans (Nat.le_trans q29 K27.1) K30.1) K88.1)
      have N99 := Fr.app N97 Nq99
      show Go p e below s _ _ _ T99 (mkF m 316 #[.val (.int x1), .val (.int x2), .val (.int x3), .val (.int x4), .val (.long p0), .second, .val (.long p1), .second, .val (.long p2), .second, .val (.long p3), .second, .val (.int (0 : Int32)), .val (.int (3 : Int32)), .val (.long w1), .second, .val (.long d1), .second, .val (.long w2), .second, .val (.long d2), .second, .val (.ref b2), .val (.ref b7), .val (.long p0), .second, .val (.long ex), .second, .val (.ref b16), .val (.int (1 : Int32)), .unset, .unset] [])
      refine waload C X99 f0_316 rfl rfl ?_
      refine wlload C X99 f0_318 rfl ?_
      refine wl2d C X99 f0_320 ?_
      refine wlload C X99 f0_321 rfl ?_
      refine wl2d C X99 f0_323 ?_
      refine wvirtual C X99 (y := (⟨"com/example/arbor_center/arborcenter/objective/UpperEnvelope", "add", "(DD)V"⟩ : MethodName)) (z := (⟨"com/example/arbor_center/arborcenter/objective/UpperEnvelope", "add", "(DD)V"⟩ : MethodName)) (tw_32 hw) (tw_33 hw) (notFace_of_selects (args := #[]) (mvT C.2.1 (tw_35 hw))) (tw_35 hw) (tw_34 hw) (tw_36 hw) (tw_13 hw) (by decide) (rm6 l Z a0 hw [] b16 (FP.l2d w2) (FP.l2d d2) ph_18 pl_18 k1_18 k2_18 3 [(.double (FP.ddiv (FP.l2d p0) (4611686018427387904 : UInt64))), (.double (FP.ddiv (FP.l2d p1) (4611686018427387904 : UInt64))), (.double (FP.ddiv (FP.l2d p2) (4611686018427387904 : UInt64))), (.double (FP.ddiv (4618441417868443648 : UInt64) (4611686018427387904 : UInt64)))] (ls'_99) (own_P4 p0.toInt p1.toInt p2.toInt p3.toInt) (W'_99) (D'_99) w2.toInt d2.toInt T99.heap n0 (Nat.le_trans q98 K99.1) (G88_1.keep K99 (ninS ne24 nin0)) (G88_2.keep K99 (ninS ne24 nin0)) (G88_3.keep K99 (ninS ne24 nin0)) (G88_4.keep K99 (ninS G18_3 nin0)) G99_0 (Nat.le_trans Z0 szG18_2) ne24 G18_3 G99_1 (own_Ps4 (by decide) (fun _ => own_l2p hp0 (by decide)) (fun _ => own_l2p hp1.2 (by decide)) (fun _ => own_l2p hp2.2 (by decide)) (fun q => absurd q (by decide))) (hm0 _ (by decide)) (by decide) (by decide) (own_wd hw2 hd2)) rfl (a := b16) (G88_0.keep K99) f0_324 (argsL := [(.double (FP.l2d w2)), (.double (FP.l2d d2))]) (rest := []) rfl rfl (lenOf pd_4 rfl) rfl (W := 0) (Nat.le_of_eq rfl) (by decide) (by decide) (by decide) (by decide) ?_
      intro v101 T101 L101 X101 q101
      obtain ⟨ls'_101, W'_101, D'_101, rfl, Nq101, K101, G101_0, G101_1, G101_2⟩ := q101
      have N101 := Fr.app N99 Nq101
      show Go p e below s _ _ _ T101 (mkF m 327 #[.val (.int x1), .val (.int x2), .val (.int x3), .val (.int x4), .val (.long p0), .second, .val (.long p1), .second, .val (.long p2), .second, .val (.long p3), .second, .val (.int (0 : Int32)), .val (.int (3 : Int32)), .val (.long w1), .second, .val (.long d1), .second, .val (.long w2), .second, .val (.long d2), .second, .val (.ref b2), .val (.ref b7), .val (.long p0), .second, .val (.long ex), .second, .val (.ref b16), .val (.int (1 : Int32)), .unset, .unset] [])
      refine waload C X101 f0_327 rfl rfl ?_
      refine wiload C X101 f0_329 rfl ?_
      have q103 := ((G88_1.keep K99 (ninS ne24 nin0)).keep K101 (ninS ne24 nin0))
      have q104 := ((G88_2.keep K99 (ninS ne24 nin0)).keep K101 (ninS ne24 nin0))
      have q105 := ((G88_3.keep K99 (ninS ne24 nin0)).keep K101 (ninS ne24 nin0))
      have q106 := ((G88_4.keep K99 (ninS G18_3 nin0)).keep K101 (ninS G18_3 nin0))
      refine wvirtual C X101 (y := (⟨"com/example/arbor_center/arborcenter/objective/UpperEnvelope", "at", "(I)D"⟩ : MethodName)) (z := (⟨"com/example/arbor_center/arborcenter/objective/UpperEnvelope", "at", "(I)D"⟩ : MethodName)) (tw_37 hw) (tw_38 hw) (notFace_of_selects (args := #[]) (mvT C.2.1 (tw_40 hw))) (tw_40 hw) (tw_39 hw) (tw_41 hw) (tw_13 hw) (by decide) (rm7_3_0 l Z a0 hw [] b16 (0 : Int32) ph_18 pl_18 k1_18 k2_18 [(.double (FP.ddiv (FP.l2d p0) (4611686018427387904 : UInt64))), (.double (FP.ddiv (FP.l2d p1) (4611686018427387904 : UInt64))), (.double (FP.ddiv (FP.l2d p2) (4611686018427387904 : UInt64))), (.double (FP.ddiv (4618441417868443648 : UInt64) (4611686018427387904 : UInt64)))] (ls'_101) (own_P4 p0.toInt p1.toInt p2.toInt p3.toInt) (W'_101) (D'_101) T101.heap n0 (Nat.le_trans (Nat.le_trans q98 K99.1) K101.1) q103 q104 q105 q106 G101_0 rfl G101_1 (own_Ps4 (by decide) (fun _ => own_l2p hp0 (by decide)) (fun _ => own_l2p hp1.2 (by decide)) (fun _ => own_l2p hp2.2 (by decide)) (fun q => absurd q (by decide)))) rfl (a := b16) ((G88_0.keep K99).keep K101) f0_331 (argsL := [(.int (0 : Int32))]) (rest := []) rfl rfl (lenOf pd_5 rfl) rfl (W := 0) (Nat.le_of_eq rfl) (by decide) (by decide) (by decide) (by decide) ?_
      intro v102 T102 L102 X102 q102
      obtain ⟨rv_102, rfl, Nq102, eq102, G102_0⟩ := q102
      have N102 := Fr.app N101 Nq102
      show Go p e below s _ _ _ T102 (mkF m 334 #[.val (.int x1), .val (.int x2), .val (.int x3), .val (.int x4), .val (.long p0), .second, .val (.long p1), .second, .val (.long p2), .second, .val (.long p3), .second, .val (.int (0 : Int32)), .val (.int (3 : Int32)), .val (.long w1), .second, .val (.long d1), .second, .val (.long w2), .second, .val (.long d2), .second, .val (.ref b2), .val (.ref b7), .val (.long p0), .second, .val (.long ex), .second, .val (.ref b16), .val (.int (1 : Int32)), .unset, .unset] [(.double rv_102)])
      refine wdstore C X102 f0_334 #[.val (.int x1), .val (.int x2), .val (.int x3), .val (.int x4), .val (.long p0), .second, .val (.long p1), .second, .val (.long p2), .second, .val (.long p3), .second, .val (.int (0 : Int32)), .val (.int (3 : Int32)), .val (.long w1), .second, .val (.long d1), .second, .val (.long w2), .second, .val (.long d2), .second, .val (.ref b2), .val (.ref b7), .val (.long p0), .second, .val (.long ex), .second, .val (.ref b16), .val (.int (1 : Int32)), .val (.double rv_102), .second] rfl ?_
      refine wiload C X102 f0_336 rfl ?_
      refine wif_eq C X102 f0_338 (fun q => absurd q (by decide : ¬ ((1 : Int32) = (0 : Int32)))) ?_
      intro _
      refine wdload C X102 f0_341 rfl ?_
      refine wlload C X102 f0_343 rfl ?_
      refine wl2d C X102 f0_345 ?_
      refine wdcmp C X102 f0_346 (v := (cmpValue (FP.dcmp rv_102 (FP.l2d ex)) .l)) rfl ?_
      refine wif_ne C X102 f0_347 ?_ (fun q => absurd ((own_eq G102_0 hexd _).mpr (own_fin (G99_2 0 (by decide)) (G101_2 0 (by decide)) hz m1.2.1 hex)) q)
      intro _
      refine wiconst C X102 f0_350 (1 : Int32) rfl ?_
      refine wgoto C X102 f0_351 ?_
      refine wiretN C X102 (t := .boolean) (by simp) f0_355 rfl (1 : Int32) (by decide) (by decide) (by decide) ?_
      rw [eq102]
      exact ⟨rfl, N102⟩
    · obtain rfl : p1 = pk := by
        rcases hpk with ⟨q, r⟩ | ⟨q, r⟩ | ⟨q, r⟩ | ⟨q, r⟩ <;> first | exact r.symm | exact absurd q (by decide)
      have q108 := ((G19_1.keep K27 (ninS ne24 nin0)).keep K30 (ninS ne24 nin0))
      have q109 := ((G19_2.keep K27 (ninS ne24 nin0)).keep K30 (ninS ne24 nin0))
      have q110 := ((G19_3.keep K27 (ninS ne24 nin0)).keep K30 (ninS ne24 nin0))
      have q111 := ((G19_4.keep K27 (ninS G18_3 nin0)).keep K30 (ninS G18_3 nin0))
      have ne112 : b7 ≠ b16 := (Nat.ne_of_lt (Nat.lt_of_lt_of_le (Nat.lt_of_lt_of_eq (Nat.lt_of_lt_of_eq (Nat.lt_of_lt_of_eq (Nat.lt_of_lt_of_eq Vp7.lt W9.size.symm) W10.size.symm) W11.size.symm) W12.size.symm) (Nat.le_of_eq g16.symm)))
      have ne113 : b7 ≠ pl_18 := (Nat.ne_of_lt (Nat.lt_of_lt_of_le (Nat.lt_of_lt_of_le (Nat.lt_of_lt_of_eq (Nat.lt_of_lt_of_eq (Nat.lt_of_lt_of_eq (Nat.lt_of_lt_of_eq Vp7.lt W9.size.symm) W10.size.symm) W11.size.symm) W12.size.symm) E16.1) G18_2))
      have ne114 : b7 ≠ ph_18 := (Nat.ne_of_lt (Nat.lt_of_lt_of_le (Nat.lt_of_lt_of_le (Nat.lt_of_lt_of_eq (Nat.lt_of_lt_of_eq (Nat.lt_of_lt_of_eq (Nat.lt_of_lt_of_eq Vp7.lt W9.size.symm) W10.size.symm) W11.size.symm) W12.size.symm) E16.1) G18_1))
      have q115 := (((((V12.ext E16).keep K18 (ninS ne112 nin0)).keep K19 (ninS ne112 (ninS ne114 (ninS ne113 nin0)))).keep K27 (ninS ne113 nin0)).keep K30 (ninS ne113 nin0))
      refine wvirtual C X30 (y := (⟨"com/example/arbor_center/arborcenter/objective/UpperEnvelope", "reset", "([DI)V"⟩ : MethodName)) (z := (⟨"com/example/arbor_center/arborcenter/objective/UpperEnvelope", "reset", "([DI)V"⟩ : MethodName)) (tw_24 hw) (tw_25 hw) (notFace_of_selects (args := #[]) (mvT C.2.1 (tw_27 hw))) (tw_27 hw) (tw_26 hw) (tw_28 hw) (tw_13 hw) (by decide) (rm5_3 l Z a0 hw [] b16 b7 (3 : Int32) ph_18 pl_18 k1_18 k2_18 k7 (4 : Int32) (ls'_30) (FP.ddiv FP.dconst0 (4611686018427387904 : UInt64)) (FP.ddiv (4611686018427387904 : UInt64) (4611686018427387904 : UInt64)) (FP.ddiv (4616189618054758400 : UInt64) (4611686018427387904 : UInt64)) (FP.ddiv (4618441417868443648 : UInt64) (4611686018427387904 : UInt64)) (FP.l2d p0) (FP.l2d p1) (FP.l2d p2) (FP.l2d p3) T30.heap n0 (Nat.le_trans (Nat.le_trans q28 K27.1) K30.1) ((G19_0.keep K27).keep K30) q108 q109 q110 q111 G30_0 q115 (Nat.le_trans Z0 sz16) (Nat.le_trans Z0 szG18_1) (Nat.le_trans Z0 szG18_2) ne23 ne24 G18_3 ne112 ne114 ne113 rfl G30_1.1 hd_0 hd_1 hd_2) rfl (a := b16) ((G19_0.keep K27).keep K30) f0_283 (argsL := [(.ref b7), (.int (3 : Int32))]) (rest := []) rfl rfl (lenOf pd_3 rfl) rfl (W := 0) (Nat.le_of_eq rfl) (by decide) (by decide) (by decide) (by decide) ?_
      intro v107 T107 L107 X107 q107
      obtain ⟨rfl, Nq107, K107, G107_0, G107_1, G107_2, G107_3, G107_4, G107_5⟩ := q107
      have N107 := Fr.app N30 Nq107
      show Go p e below s _ _ _ T107 (mkF m 286 #[.val (.int x1), .val (.int x2), .val (.int x3), .val (.int x4), .val (.long p0), .second, .val (.long p1), .second, .val (.long p2), .second, .val (.long p3), .second, .val (.int (1 : Int32)), .val (.int (3 : Int32)), .val (.long w1), .second, .val (.long d1), .second, .val (.long w2), .second, .val (.long d2), .second, .val (.ref b2), .val (.ref b7), .val (.long p1), .second, .val (.long ex), .second, .val (.ref b16), .unset, .unset, .unset] [])
      refine waload C X107 f0_286 rfl rfl ?_
      refine wiload C X107 f0_288 rfl ?_
      have q117 := (Nat.le_trans (Nat.le_trans (Nat.le_trans q28 K27.1) K30.1) K107.1)
      refine wvirtual C X107 (y := (⟨"com/example/arbor_center/arborcenter/objective/UpperEnvelope", "at", "(I)D"⟩ : MethodName)) (z := (⟨"com/example/arbor_center/arborcenter/objective/UpperEnvelope", "at", "(I)D"⟩ : MethodName)) (tw_37 hw) (tw_38 hw) (notFace_of_selects (args := #[]) (mvT C.2.1 (tw_40 hw))) (tw_40 hw) (tw_39 hw) (tw_41 hw) (tw_13 hw) (by decide) (rm7_3_1 l Z a0 hw [] b16 (1 : Int32) ph_18 pl_18 k1_18 k2_18 [(.double (FP.ddiv (FP.l2d p0) (4611686018427387904 : UInt64))), (.double (FP.ddiv (FP.l2d p1) (4611686018427387904 : UInt64))), (.double (FP.ddiv (FP.l2d p2) (4611686018427387904 : UInt64))), (.double (FP.ddiv (4618441417868443648 : UInt64) (4611686018427387904 : UInt64)))] _ (own_P4 p0.toInt p1.toInt p2.toInt p3.toInt) (own_upd (own_upd (own_upd (own_upd (own_upd W'_30 0 0) 1 0) 2 0) 3 0) 4 0) (own_upd (own_upd (own_upd (own_upd (own_upd D'_30 0 0) 1 0) 2 0) 3 0) 4 0) T107.heap n0 q117 G107_1 G107_2 G107_3 G107_4 G107_5 rfl (own_Lz 4 (own_Lz 3 (own_Lz 2 (own_Lz 1 (own_Lz 0 G30_1 (by decide) rfl rfl) (by decide) rfl rfl) (by decide) rfl rfl) (by decide) rfl rfl) (by decide) rfl rfl) (own_Ps4 (by decide) (fun _ => own_l2p hp0 (by decide)) (fun _ => own_l2p hp1.2 (by decide)) (fun _ => own_l2p hp2.2 (by decide)) (fun q => absurd q (by decide)))) rfl (a := b16) G107_0 f0_290 (argsL := [(.int (1 : Int32))]) (rest := []) rfl rfl (lenOf pd_5 rfl) rfl (W := 0) (Nat.le_of_eq rfl) (by decide) (by decide) (by decide) (by decide) ?_
      intro v116 T116 L116 X116 q116
      obtain ⟨rv_116, rfl, Nq116, eq116, G116_0⟩ := q116
      have N116 := Fr.app N107 Nq116
      show Go p e below s _ _ _ T116 (mkF m 293 #[.val (.int x1), .val (.int x2), .val (.int x3), .val (.int x4), .val (.long p0), .second, .val (.long p1), .second, .val (.long p2), .second, .val (.long p3), .second, .val (.int (1 : Int32)), .val (.int (3 : Int32)), .val (.long w1), .second, .val (.long d1), .second, .val (.long w2), .second, .val (.long d2), .second, .val (.ref b2), .val (.ref b7), .val (.long p1), .second, .val (.long ex), .second, .val (.ref b16), .unset, .unset, .unset] [(.double rv_116)])
      refine wdconst0 C X116 f0_293 ?_
      refine wdcmp C X116 f0_294 (v := (cmpValue (FP.dcmp rv_116 FP.dconst0) .l)) rfl ?_
      have hz : own_pm 3 0 0 (3 - 1) (own_upd (own_upd (own_upd (own_upd (own_upd W'_30 0 0) 1 0) 2 0) 3 0) 4 0) (own_upd (own_upd (own_upd (own_upd (own_upd D'_30 0 0) 1 0) 2 0) 3 0) 4 0) ((own_P4 p0.toInt p1.toInt p2.toInt p3.toInt) 1) 1 = 0 := by simp [own_pm, own_upd]
      refine wif_ne C X116 f0_295 ?_ (fun q => absurd ((own_eq G116_0 (own_c 0 _ 0 (by decide +kernel) (by decide)) _).mpr hz) q)
      intro _
      refine wiconst C X116 f0_298 (1 : Int32) rfl ?_
      refine wgoto C X116 f0_299 ?_
      refine wistore C X116 f0_303 #[.val (.int x1), .val (.int x2), .val (.int x3), .val (.int x4), .val (.long p0), .second, .val (.long p1), .second, .val (.long p2), .second, .val (.long p3), .second, .val (.int (1 : Int32)), .val (.int (3 : Int32)), .val (.long w1), .second, .val (.long d1), .second, .val (.long w2), .second, .val (.long d2), .second, .val (.ref b2), .val (.ref b7), .val (.long p1), .second, .val (.long ex), .second, .val (.ref b16), .val (.int (1 : Int32)), .unset, .unset] rfl ?_
      refine waload C X116 f0_305 rfl rfl ?_
      refine wlload C X116 f0_307 rfl ?_
      refine wl2d C X116 f0_309 ?_
      refine wlload C X116 f0_310 rfl ?_
      refine wl2d C X116 f0_312 ?_
      refine wvirtual C X116 (y := (⟨"com/example/arbor_center/arborcenter/objective/UpperEnvelope", "add", "(DD)V"⟩ : MethodName)) (z := (⟨"com/example/arbor_center/arborcenter/objective/UpperEnvelope", "add", "(DD)V"⟩ : MethodName)) (tw_32 hw) (tw_33 hw) (notFace_of_selects (args := #[]) (mvT C.2.1 (tw_35 hw))) (tw_35 hw) (tw_34 hw) (tw_36 hw) (tw_13 hw) (by decide) (rm6 l Z a0 hw [] b16 (FP.l2d w1) (FP.l2d d1) ph_18 pl_18 k1_18 k2_18 3 [(.double (FP.ddiv (FP.l2d p0) (4611686018427387904 : UInt64))), (.double (FP.ddiv (FP.l2d p1) (4611686018427387904 : UInt64))), (.double (FP.ddiv (FP.l2d p2) (4611686018427387904 : UInt64))), (.double (FP.ddiv (4618441417868443648 : UInt64) (4611686018427387904 : UInt64)))] _ (own_P4 p0.toInt p1.toInt p2.toInt p3.toInt) (own_upd (own_upd (own_upd (own_upd (own_upd W'_30 0 0) 1 0) 2 0) 3 0) 4 0) (own_upd (own_upd (own_upd (own_upd (own_upd D'_30 0 0) 1 0) 2 0) 3 0) 4 0) w1.toInt d1.toInt T107.heap n0 q117 G107_1 G107_2 G107_3 G107_4 G107_5 (Nat.le_trans Z0 szG18_2) ne24 G18_3 (own_Lz 4 (own_Lz 3 (own_Lz 2 (own_Lz 1 (own_Lz 0 G30_1 (by decide) rfl rfl) (by decide) rfl rfl) (by decide) rfl rfl) (by decide) rfl rfl) (by decide) rfl rfl) (own_Ps4 (by decide) (fun _ => own_l2p hp0 (by decide)) (fun _ => own_l2p hp1.2 (by decide)) (fun _ => own_l2p hp2.2 (by decide)) (fun q => absurd q (by decide))) (hm0 _ (by decide)) (by decide) (by decide) (own_wd hw1 hd1)) eq116 (a := b16) G107_0 f0_313 (argsL := [(.double (FP.l2d w1)), (.double (FP.l2d d1))]) (rest := []) rfl rfl (lenOf pd_4 rfl) rfl (W := 0) (Nat.le_of_eq rfl) (by decide) (by decide) (by decide) (by decide) ?_
      intro v118 T118 L118 X118 q118
      obtain ⟨ls'_118, W'_118, D'_118, rfl, Nq118, K118, G118_0, G118_1, G118_2⟩ := q118
      have q119 := (Nat.le_trans (Nat.le_trans (Nat.le_trans q29 K27.1) K30.1) K107.1)
      have N118 := Fr.app N116 Nq118
      show Go p e below s _ _ _ T118 (mkF m 316 #[.val (.int x1), .val (.int x2), .val (.int x3), .val (.int x4), .val (.long p0), .second, .val (.long p1), .second, .val (.long p2), .second, .val (.long p3), .second, .val (.int (1 : Int32)), .val (.int (3 : Int32)), .val (.long w1), .second, .val (.long d1), .second, .val (.long w2), .second, .val (.long d2), .second, .val (.ref b2), .val (.ref b7), .val (.long p1), .second, .val (.long ex), .second, .val (.ref b16), .val (.int (1 : Int32)), .unset, .unset] [])
      refine waload C X118 f0_316 rfl rfl ?_
      refine wlload C X118 f0_318 rfl ?_
      refine wl2d C X118 f0_320 ?_
      refine wlload C X118 f0_321 rfl ?_
      refine wl2d C X118 f0_323 ?_
      refine wvirtual C X118 (y := (⟨"com/example/arbor_center/arborcenter/objective/UpperEnvelope", "add", "(DD)V"⟩ : MethodName)) (z := (⟨"com/example/arbor_center/arborcenter/objective/UpperEnvelope", "add", "(DD)V"⟩ : MethodName)) (tw_32 hw) (tw_33 hw) (notFace_of_selects (args := #[]) (mvT C.2.1 (tw_35 hw))) (tw_35 hw) (tw_34 hw) (tw_36 hw) (tw_13 hw) (by decide) (rm6 l Z a0 hw [] b16 (FP.l2d w2) (FP.l2d d2) ph_18 pl_18 k1_18 k2_18 3 [(.double (FP.ddiv (FP.l2d p0) (4611686018427387904 : UInt64))), (.double (FP.ddiv (FP.l2d p1) (4611686018427387904 : UInt64))), (.double (FP.ddiv (FP.l2d p2) (4611686018427387904 : UInt64))), (.double (FP.ddiv (4618441417868443648 : UInt64) (4611686018427387904 : UInt64)))] (ls'_118) (own_P4 p0.toInt p1.toInt p2.toInt p3.toInt) (W'_118) (D'_118) w2.toInt d2.toInt T118.heap n0 (Nat.le_trans q117 K118.1) (G107_1.keep K118 (ninS ne24 nin0)) (G107_2.keep K118 (ninS ne24 nin0)) (G107_3.keep K118 (ninS ne24 nin0)) (G107_4.keep K118 (ninS G18_3 nin0)) G118_0 (Nat.le_trans Z0 szG18_2) ne24 G18_3 G118_1 (own_Ps4 (by decide) (fun _ => own_l2p hp0 (by decide)) (fun _ => own_l2p hp1.2 (by decide)) (fun _ => own_l2p hp2.2 (by decide)) (fun q => absurd q (by decide))) (hm0 _ (by decide)) (by decide) (by decide) (own_wd hw2 hd2)) rfl (a := b16) (G107_0.keep K118) f0_324 (argsL := [(.double (FP.l2d w2)), (.double (FP.l2d d2))]) (rest := []) rfl rfl (lenOf pd_4 rfl) rfl (W := 0) (Nat.le_of_eq rfl) (by decide) (by decide) (by decide) (by decide) ?_
      intro v120 T120 L120 X120 q120
      obtain ⟨ls'_120, W'_120, D'_120, rfl, Nq120, K120, G120_0, G120_1, G120_2⟩ := q120
      have N120 := Fr.app N118 Nq120
      show Go p e below s _ _ _ T120 (mkF m 327 #[.val (.int x1), .val (.int x2), .val (.int x3), .val (.int x4), .val (.long p0), .second, .val (.long p1), .second, .val (.long p2), .second, .val (.long p3), .second, .val (.int (1 : Int32)), .val (.int (3 : Int32)), .val (.long w1), .second, .val (.long d1), .second, .val (.long w2), .second, .val (.long d2), .second, .val (.ref b2), .val (.ref b7), .val (.long p1), .second, .val (.long ex), .second, .val (.ref b16), .val (.int (1 : Int32)), .unset, .unset] [])
      refine waload C X120 f0_327 rfl rfl ?_
      refine wiload C X120 f0_329 rfl ?_
      have q122 := ((G107_1.keep K118 (ninS ne24 nin0)).keep K120 (ninS ne24 nin0))
      have q123 := ((G107_2.keep K118 (ninS ne24 nin0)).keep K120 (ninS ne24 nin0))
      have q124 := ((G107_3.keep K118 (ninS ne24 nin0)).keep K120 (ninS ne24 nin0))
      have q125 := ((G107_4.keep K118 (ninS G18_3 nin0)).keep K120 (ninS G18_3 nin0))
      refine wvirtual C X120 (y := (⟨"com/example/arbor_center/arborcenter/objective/UpperEnvelope", "at", "(I)D"⟩ : MethodName)) (z := (⟨"com/example/arbor_center/arborcenter/objective/UpperEnvelope", "at", "(I)D"⟩ : MethodName)) (tw_37 hw) (tw_38 hw) (notFace_of_selects (args := #[]) (mvT C.2.1 (tw_40 hw))) (tw_40 hw) (tw_39 hw) (tw_41 hw) (tw_13 hw) (by decide) (rm7_3_1 l Z a0 hw [] b16 (1 : Int32) ph_18 pl_18 k1_18 k2_18 [(.double (FP.ddiv (FP.l2d p0) (4611686018427387904 : UInt64))), (.double (FP.ddiv (FP.l2d p1) (4611686018427387904 : UInt64))), (.double (FP.ddiv (FP.l2d p2) (4611686018427387904 : UInt64))), (.double (FP.ddiv (4618441417868443648 : UInt64) (4611686018427387904 : UInt64)))] (ls'_120) (own_P4 p0.toInt p1.toInt p2.toInt p3.toInt) (W'_120) (D'_120) T120.heap n0 (Nat.le_trans (Nat.le_trans q117 K118.1) K120.1) q122 q123 q124 q125 G120_0 rfl G120_1 (own_Ps4 (by decide) (fun _ => own_l2p hp0 (by decide)) (fun _ => own_l2p hp1.2 (by decide)) (fun _ => own_l2p hp2.2 (by decide)) (fun q => absurd q (by decide)))) rfl (a := b16) ((G107_0.keep K118).keep K120) f0_331 (argsL := [(.int (1 : Int32))]) (rest := []) rfl rfl (lenOf pd_5 rfl) rfl (W := 0) (Nat.le_of_eq rfl) (by decide) (by decide) (by decide) (by decide) ?_
      intro v121 T121 L121 X121 q121
      obtain ⟨rv_121, rfl, Nq121, eq121, G121_0⟩ := q121
      have N121 := Fr.app N120 Nq121
      show Go p e below s _ _ _ T121 (mkF m 334 #[.val (.int x1), .val (.int x2), .val (.int x3), .val (.int x4), .val (.long p0), .second, .val (.long p1), .second, .val (.long p2), .second, .val (.long p3), .second, .val (.int (1 : Int32)), .val (.int (3 : Int32)), .val (.long w1), .second, .val (.long d1), .second, .val (.long w2), .second, .val (.long d2), .second, .val (.ref b2), .val (.ref b7), .val (.long p1), .second, .val (.long ex), .second, .val (.ref b16), .val (.int (1 : Int32)), .unset, .unset] [(.double rv_121)])
      refine wdstore C X121 f0_334 #[.val (.int x1), .val (.int x2), .val (.int x3), .val (.int x4), .val (.long p0), .second, .val (.long p1), .second, .val (.long p2), .second, .val (.long p3), .second, .val (.int (1 : Int32)), .val (.int (3 : Int32)), .val (.long w1), .second, .val (.long d1), .second, .val (.long w2), .second, .val (.long d2), .second, .val (.ref b2), .val (.ref b7), .val (.long p1), .second, .val (.long ex), .second, .val (.ref b16), .val (.int (1 : Int32)), .val (.double rv_121), .second] rfl ?_
      refine wiload C X121 f0_336 rfl ?_
      refine wif_eq C X121 f0_338 (fun q => absurd q (by decide : ¬ ((1 : Int32) = (0 : Int32)))) ?_
      intro _
      refine wdload C X121 f0_341 rfl ?_
      refine wlload C X121 f0_343 rfl ?_
      refine wl2d C X121 f0_345 ?_
      refine wdcmp C X121 f0_346 (v := (cmpValue (FP.dcmp rv_121 (FP.l2d ex)) .l)) rfl ?_
      refine wif_ne C X121 f0_347 ?_ (fun q => absurd ((own_eq G121_0 hexd _).mpr (own_fin (G118_2 1 (by decide)) (G120_2 1 (by decide)) hz m1.2.1 hex)) q)
      intro _
      refine wiconst C X121 f0_350 (1 : Int32) rfl ?_
      refine wgoto C X121 f0_351 ?_
      refine wiretN C X121 (t := .boolean) (by simp) f0_355 rfl (1 : Int32) (by decide) (by decide) (by decide) ?_
      rw [eq121]
      exact ⟨rfl, N121⟩
    · obtain rfl : p2 = pk := by
        rcases hpk with ⟨q, r⟩ | ⟨q, r⟩ | ⟨q, r⟩ | ⟨q, r⟩ <;> first | exact r.symm | exact absurd q (by decide)
      have q127 := ((G19_1.keep K27 (ninS ne24 nin0)).keep K30 (ninS ne24 nin0))
      have q128 := ((G19_2.keep K27 (ninS ne24 nin0)).keep K30 (ninS ne24 nin0))
      have q129 := ((G19_3.keep K27 (ninS ne24 nin0)).keep K30 (ninS ne24 nin0))
      have q130 := ((G19_4.keep K27 (ninS G18_3 nin0)).keep K30 (ninS G18_3 nin0))
      have ne131 : b7 ≠ b16 := (Nat.ne_of_lt (Nat.lt_of_lt_of_le (Nat.lt_of_lt_of_eq (Nat.lt_of_lt_of_eq (Nat.lt_of_lt_of_eq (Nat.lt_of_lt_of_eq Vp7.lt W9.size.symm) W10.size.symm) W11.size.symm) W12.size.symm) (Nat.le_of_eq g16.symm)))
      have ne132 : b7 ≠ pl_18 := (Nat.ne_of_lt (Nat.lt_of_lt_of_le (Nat.lt_of_lt_of_le (Nat.lt_of_lt_of_eq (Nat.lt_of_lt_of_eq (Nat.lt_of_lt_of_eq (Nat.lt_of_lt_of_eq Vp7.lt W9.size.symm) W10.size.symm) W11.size.symm) W12.size.symm) E16.1) G18_2))
      have ne133 : b7 ≠ ph_18 := (Nat.ne_of_lt (Nat.lt_of_lt_of_le (Nat.lt_of_lt_of_le (Nat.lt_of_lt_of_eq (Nat.lt_of_lt_of_eq (Nat.lt_of_lt_of_eq (Nat.lt_of_lt_of_eq Vp7.lt W9.size.symm) W10.size.symm) W11.size.symm) W12.size.symm) E16.1) G18_1))
      have q134 := (((((V12.ext E16).keep K18 (ninS ne131 nin0)).keep K19 (ninS ne131 (ninS ne133 (ninS ne132 nin0)))).keep K27 (ninS ne132 nin0)).keep K30 (ninS ne132 nin0))
      refine wvirtual C X30 (y := (⟨"com/example/arbor_center/arborcenter/objective/UpperEnvelope", "reset", "([DI)V"⟩ : MethodName)) (z := (⟨"com/example/arbor_center/arborcenter/objective/UpperEnvelope", "reset", "([DI)V"⟩ : MethodName)) (tw_24 hw) (tw_25 hw) (notFace_of_selects (args := #[]) (mvT C.2.1 (tw_27 hw))) (tw_27 hw) (tw_26 hw) (tw_28 hw) (tw_13 hw) (by decide) (rm5_3 l Z a0 hw [] b16 b7 (3 : Int32) ph_18 pl_18 k1_18 k2_18 k7 (4 : Int32) (ls'_30) (FP.ddiv FP.dconst0 (4611686018427387904 : UInt64)) (FP.ddiv (4611686018427387904 : UInt64) (4611686018427387904 : UInt64)) (FP.ddiv (4616189618054758400 : UInt64) (4611686018427387904 : UInt64)) (FP.ddiv (4618441417868443648 : UInt64) (4611686018427387904 : UInt64)) (FP.l2d p0) (FP.l2d p1) (FP.l2d p2) (FP.l2d p3) T30.heap n0 (Nat.le_trans (Nat.le_trans q28 K27.1) K30.1) ((G19_0.keep K27).keep K30) q127 q128 q129 q130 G30_0 q134 (Nat.le_trans Z0 sz16) (Nat.le_trans Z0 szG18_1) (Nat.le_trans Z0 szG18_2) ne23 ne24 G18_3 ne131 ne133 ne132 rfl G30_1.1 hd_0 hd_1 hd_2) rfl (a := b16) ((G19_0.keep K27).keep K30) f0_283 (argsL := [(.ref b7), (.int (3 : Int32))]) (rest := []) rfl rfl (lenOf pd_3 rfl) rfl (W := 0) (Nat.le_of_eq rfl) (by decide) (by decide) (by decide) (by decide) ?_
      intro v126 T126 L126 X126 q126
      obtain ⟨rfl, Nq126, K126, G126_0, G126_1, G126_2, G126_3, G126_4, G126_5⟩ := q126
      have N126 := Fr.app N30 Nq126
      show Go p e below s _ _ _ T126 (mkF m 286 #[.val (.int x1), .val (.int x2), .val (.int x3), .val (.int x4), .val (.long p0), .second, .val (.long p1), .second, .val (.long p2), .second, .val (.long p3), .second, .val (.int (2 : Int32)), .val (.int (3 : Int32)), .val (.long w1), .second, .val (.long d1), .second, .val (.long w2), .second, .val (.long d2), .second, .val (.ref b2), .val (.ref b7), .val (.long p2), .second, .val (.long ex), .second, .val (.ref b16), .unset, .unset, .unset] [])
      refine waload C X126 f0_286 rfl rfl ?_
      refine wiload C X126 f0_288 rfl ?_
      have q136 := (Nat.le_trans (Nat.le_trans (Nat.le_trans q28 K27.1) K30.1) K126.1)
      refine wvirtual C X126 (y := (⟨"com/example/arbor_center/arborcenter/objective/UpperEnvelope", "at", "(I)D"⟩ : MethodName)) (z := (⟨"com/example/arbor_center/arborcenter/objective/UpperEnvelope", "at", "(I)D"⟩ : MethodName)) (tw_37 hw) (tw_38 hw) (notFace_of_selects (args := #[]) (mvT C.2.1 (tw_40 hw))) (tw_40 hw) (tw_39 hw) (tw_41 hw) (tw_13 hw) (by decide) (rm7_3_2 l Z a0 hw [] b16 (2 : Int32) ph_18 pl_18 k1_18 k2_18 [(.double (FP.ddiv (FP.l2d p0) (4611686018427387904 : UInt64))), (.double (FP.ddiv (FP.l2d p1) (4611686018427387904 : UInt64))), (.double (FP.ddiv (FP.l2d p2) (4611686018427387904 : UInt64))), (.double (FP.ddiv (4618441417868443648 : UInt64) (4611686018427387904 : UInt64)))] _ (own_P4 p0.toInt p1.toInt p2.toInt p3.toInt) (own_upd (own_upd (own_upd (own_upd (own_upd W'_30 0 0) 1 0) 2 0) 3 0) 4 0) (own_upd (own_upd (own_upd (own_upd (own_upd D'_30 0 0) 1 0) 2 0) 3 0) 4 0) T126.heap n0 q136 G126_1 G126_2 G126_3 G126_4 G126_5 rfl (own_Lz 4 (own_Lz 3 (own_Lz 2 (own_Lz 1 (own_Lz 0 G30_1 (by decide) rfl rfl) (by decide) rfl rfl) (by decide) rfl rfl) (by decide) rfl rfl) (by decide) rfl rfl) (own_Ps4 (by decide) (fun _ => own_l2p hp0 (by decide)) (fun _ => own_l2p hp1.2 (by decide)) (fun _ => own_l2p hp2.2 (by decide)) (fun q => absurd q (by decide)))) rfl (a := b16) G126_0 f0_290 (argsL := [(.int (2 : Int32))]) (rest := []) rfl rfl (lenOf pd_5 rfl) rfl (W := 0) (Nat.le_of_eq rfl) (by decide) (by decide) (by decide) (by decide) ?_
      intro v135 T135 L135 X135 q135
      obtain ⟨rv_135, rfl, Nq135, eq135, G135_0⟩ := q135
      have N135 := Fr.app N126 Nq135
      show Go p e below s _ _ _ T135 (mkF m 293 #[.val (.int x1), .val (.int x2), .val (.int x3), .val (.int x4), .val (.long p0), .second, .val (.long p1), .second, .val (.long p2), .second, .val (.long p3), .second, .val (.int (2 : Int32)), .val (.int (3 : Int32)), .val (.long w1), .second, .val (.long d1), .second, .val (.long w2), .second, .val (.long d2), .second, .val (.ref b2), .val (.ref b7), .val (.long p2), .second, .val (.long ex), .second, .val (.ref b16), .unset, .unset, .unset] [(.double rv_135)])
      refine wdconst0 C X135 f0_293 ?_
      refine wdcmp C X135 f0_294 (v := (cmpValue (FP.dcmp rv_135 FP.dconst0) .l)) rfl ?_
      have hz : own_pm 3 0 0 (3 - 1) (own_upd (own_upd (own_upd (own_upd (own_upd W'_30 0 0) 1 0) 2 0) 3 0) 4 0) (own_upd (own_upd (own_upd (own_upd (own_upd D'_30 0 0) 1 0) 2 0) 3 0) 4 0) ((own_P4 p0.toInt p1.toInt p2.toInt p3.toInt) 2) 2 = 0 := by simp [own_pm, own_upd]
      refine wif_ne C X135 f0_295 ?_ (fun q => absurd ((own_eq G135_0 (own_c 0 _ 0 (by decide +kernel) (by decide)) _).mpr hz) q)
      intro _
      refine wiconst C X135 f0_298 (1 : Int32) rfl ?_
      refine wgoto C X135 f0_299 ?_
      refine wistore C X135 f0_303 #[.val (.int x1), .val (.int x2), .val (.int x3), .val (.int x4), .val (.long p0), .second, .val (.long p1), .second, .val (.long p2), .second, .val (.long p3), .second, .val (.int (2 : Int32)), .val (.int (3 : Int32)), .val (.long w1), .second, .val (.long d1), .second, .val (.long w2), .second, .val (.long d2), .second, .val (.ref b2), .val (.ref b7), .val (.long p2), .second, .val (.long ex), .second, .val (.ref b16), .val (.int (1 : Int32)), .unset, .unset] rfl ?_
      refine waload C X135 f0_305 rfl rfl ?_
      refine wlload C X135 f0_307 rfl ?_
      refine wl2d C X135 f0_309 ?_
      refine wlload C X135 f0_310 rfl ?_
      refine wl2d C X135 f0_312 ?_
      refine wvirtual C X135 (y := (⟨"com/example/arbor_center/arborcenter/objective/UpperEnvelope", "add", "(DD)V"⟩ : MethodName)) (z := (⟨"com/example/arbor_center/arborcenter/objective/UpperEnvelope", "add", "(DD)V"⟩ : MethodName)) (tw_32 hw) (tw_33 hw) (notFace_of_selects (args := #[]) (mvT C.2.1 (tw_35 hw))) (tw_35 hw) (tw_34 hw) (tw_36 hw) (tw_13 hw) (by decide) (rm6 l Z a0 hw [] b16 (FP.l2d w1) (FP.l2d d1) ph_18 pl_18 k1_18 k2_18 3 [(.double (FP.ddiv (FP.l2d p0) (4611686018427387904 : UInt64))), (.double (FP.ddiv (FP.l2d p1) (4611686018427387904 : UInt64))), (.double (FP.ddiv (FP.l2d p2) (4611686018427387904 : UInt64))), (.double (FP.ddiv (4618441417868443648 : UInt64) (4611686018427387904 : UInt64)))] _ (own_P4 p0.toInt p1.toInt p2.toInt p3.toInt) (own_upd (own_upd (own_upd (own_upd (own_upd W'_30 0 0) 1 0) 2 0) 3 0) 4 0) (own_upd (own_upd (own_upd (own_upd (own_upd D'_30 0 0) 1 0) 2 0) 3 0) 4 0) w1.toInt d1.toInt T126.heap n0 q136 G126_1 G126_2 G126_3 G126_4 G126_5 (Nat.le_trans Z0 szG18_2) ne24 G18_3 (own_Lz 4 (own_Lz 3 (own_Lz 2 (own_Lz 1 (own_Lz 0 G30_1 (by decide) rfl rfl) (by decide) rfl rfl) (by decide) rfl rfl) (by decide) rfl rfl) (by decide) rfl rfl) (own_Ps4 (by decide) (fun _ => own_l2p hp0 (by decide)) (fun _ => own_l2p hp1.2 (by decide)) (fun _ => own_l2p hp2.2 (by decide)) (fun q => absurd q (by decide))) (hm0 _ (by decide)) (by decide) (by decide) (own_wd hw1 hd1)) eq135 (a := b16) G126_0 f0_313 (argsL := [(.double (FP.l2d w1)), (.double (FP.l2d d1))]) (rest := []) rfl rfl (lenOf pd_4 rfl) rfl (W := 0) (Nat.le_of_eq rfl) (by decide) (by decide) (by decide) (by decide) ?_
      intro v137 T137 L137 X137 q137
      obtain ⟨ls'_137, W'_137, D'_137, rfl, Nq137, K137, G137_0, G137_1, G137_2⟩ := q137
      have q138 := (Nat.le_trans (Nat.le_trans (Nat.le_trans q29 K27.1) K30.1) K126.1)
      have N137 := Fr.app N135 Nq137
      show Go p e below s _ _ _ T137 (mkF m 316 #[.val (.int x1), .val (.int x2), .val (.int x3), .val (.int x4), .val (.long p0), .second, .val (.long p1), .second, .val (.long p2), .second, .val (.long p3), .second, .val (.int (2 : Int32)), .val (.int (3 : Int32)), .val (.long w1), .second, .val (.long d1), .second, .val (.long w2), .second, .val (.long d2), .second, .val (.ref b2), .val (.ref b7), .val (.long p2), .second, .val (.long ex), .second, .val (.ref b16), .val (.int (1 : Int32)), .unset, .unset] [])
      refine waload C X137 f0_316 rfl rfl ?_
      refine wlload C X137 f0_318 rfl ?_
      refine wl2d C X137 f0_320 ?_
      refine wlload C X137 f0_321 rfl ?_
      refine wl2d C X137 f0_323 ?_
      refine wvirtual C X137 (y := (⟨"com/example/arbor_center/arborcenter/objective/UpperEnvelope", "add", "(DD)V"⟩ : MethodName)) (z := (⟨"com/example/arbor_center/arborcenter/objective/UpperEnvelope", "add", "(DD)V"⟩ : MethodName)) (tw_32 hw) (tw_33 hw) (notFace_of_selects (args := #[]) (mvT C.2.1 (tw_35 hw))) (tw_35 hw) (tw_34 hw) (tw_36 hw) (tw_13 hw) (by decide) (rm6 l Z a0 hw [] b16 (FP.l2d w2) (FP.l2d d2) ph_18 pl_18 k1_18 k2_18 3 [(.double (FP.ddiv (FP.l2d p0) (4611686018427387904 : UInt64))), (.double (FP.ddiv (FP.l2d p1) (4611686018427387904 : UInt64))), (.double (FP.ddiv (FP.l2d p2) (4611686018427387904 : UInt64))), (.double (FP.ddiv (4618441417868443648 : UInt64) (4611686018427387904 : UInt64)))] (ls'_137) (own_P4 p0.toInt p1.toInt p2.toInt p3.toInt) (W'_137) (D'_137) w2.toInt d2.toInt T137.heap n0 (Nat.le_trans q136 K137.1) (G126_1.keep K137 (ninS ne24 nin0)) (G126_2.keep K137 (ninS ne24 nin0)) (G126_3.keep K137 (ninS ne24 nin0)) (G126_4.keep K137 (ninS G18_3 nin0)) G137_0 (Nat.le_trans Z0 szG18_2) ne24 G18_3 G137_1 (own_Ps4 (by decide) (fun _ => own_l2p hp0 (by decide)) (fun _ => own_l2p hp1.2 (by decide)) (fun _ => own_l2p hp2.2 (by decide)) (fun q => absurd q (by decide))) (hm0 _ (by decide)) (by decide) (by decide) (own_wd hw2 hd2)) rfl (a := b16) (G126_0.keep K137) f0_324 (argsL := [(.double (FP.l2d w2)), (.double (FP.l2d d2))]) (rest := []) rfl rfl (lenOf pd_4 rfl) rfl (W := 0) (Nat.le_of_eq rfl) (by decide) (by decide) (by decide) (by decide) ?_
      intro v139 T139 L139 X139 q139
      obtain ⟨ls'_139, W'_139, D'_139, rfl, Nq139, K139, G139_0, G139_1, G139_2⟩ := q139
      have N139 := Fr.app N137 Nq139
      show Go p e below s _ _ _ T139 (mkF m 327 #[.val (.int x1), .val (.int x2), .val (.int x3), .val (.int x4), .val (.long p0), .second, .val (.long p1), .second, .val (.long p2), .second, .val (.long p3), .second, .val (.int (2 : Int32)), .val (.int (3 : Int32)), .val (.long w1), .second, .val (.long d1), .second, .val (.long w2), .second, .val (.long d2), .second, .val (.ref b2), .val (.ref b7), .val (.long p2), .second, .val (.long ex), .second, .val (.ref b16), .val (.int (1 : Int32)), .unset, .unset] [])
      refine waload C X139 f0_327 rfl rfl ?_
      refine wiload C X139 f0_329 rfl ?_
      have q141 := ((G126_1.keep K137 (ninS ne24 nin0)).keep K139 (ninS ne24 nin0))
      have q142 := ((G126_2.keep K137 (ninS ne24 nin0)).keep K139 (ninS ne24 nin0))
      have q143 := ((G126_3.keep K137 (ninS ne24 nin0)).keep K139 (ninS ne24 nin0))
      have q144 := ((G126_4.keep K137 (ninS G18_3 nin0)).keep K139 (ninS G18_3 nin0))
      refine wvirtual C X139 (y := (⟨"com/example/arbor_center/arborcenter/objective/UpperEnvelope", "at", "(I)D"⟩ : MethodName)) (z := (⟨"com/example/arbor_center/arborcenter/objective/UpperEnvelope", "at", "(I)D"⟩ : MethodName)) (tw_37 hw) (tw_38 hw) (notFace_of_selects (args := #[]) (mvT C.2.1 (tw_40 hw))) (tw_40 hw) (tw_39 hw) (tw_41 hw) (tw_13 hw) (by decide) (rm7_3_2 l Z a0 hw [] b16 (2 : Int32) ph_18 pl_18 k1_18 k2_18 [(.double (FP.ddiv (FP.l2d p0) (4611686018427387904 : UInt64))), (.double (FP.ddiv (FP.l2d p1) (4611686018427387904 : UInt64))), (.double (FP.ddiv (FP.l2d p2) (4611686018427387904 : UInt64))), (.double (FP.ddiv (4618441417868443648 : UInt64) (4611686018427387904 : UInt64)))] (ls'_139) (own_P4 p0.toInt p1.toInt p2.toInt p3.toInt) (W'_139) (D'_139) T139.heap n0 (Nat.le_trans (Nat.le_trans q136 K137.1) K139.1) q141 q142 q143 q144 G139_0 rfl G139_1 (own_Ps4 (by decide) (fun _ => own_l2p hp0 (by decide)) (fun _ => own_l2p hp1.2 (by decide)) (fun _ => own_l2p hp2.2 (by decide)) (fun q => absurd q (by decide)))) rfl (a := b16) ((G126_0.keep K137).keep K139) f0_331 (argsL := [(.int (2 : Int32))]) (rest := []) rfl rfl (lenOf pd_5 rfl) rfl (W := 0) (Nat.le_of_eq rfl) (by decide) (by decide) (by decide) (by decide) ?_
      intro v140 T140 L140 X140 q140
      obtain ⟨rv_140, rfl, Nq140, eq140, G140_0⟩ := q140
      have N140 := Fr.app N139 Nq140
      show Go p e below s _ _ _ T140 (mkF m 334 #[.val (.int x1), .val (.int x2), .val (.int x3), .val (.int x4), .val (.long p0), .second, .val (.long p1), .second, .val (.long p2), .second, .val (.long p3), .second, .val (.int (2 : Int32)), .val (.int (3 : Int32)), .val (.long w1), .second, .val (.long d1), .second, .val (.long w2), .second, .val (.long d2), .second, .val (.ref b2), .val (.ref b7), .val (.long p2), .second, .val (.long ex), .second, .val (.ref b16), .val (.int (1 : Int32)), .unset, .unset] [(.double rv_140)])
      refine wdstore C X140 f0_334 #[.val (.int x1), .val (.int x2), .val (.int x3), .val (.int x4), .val (.long p0), .second, .val (.long p1), .second, .val (.long p2), .second, .val (.long p3), .second, .val (.int (2 : Int32)), .val (.int (3 : Int32)), .val (.long w1), .second, .val (.long d1), .second, .val (.long w2), .second, .val (.long d2), .second, .val (.ref b2), .val (.ref b7), .val (.long p2), .second, .val (.long ex), .second, .val (.ref b16), .val (.int (1 : Int32)), .val (.double rv_140), .second] rfl ?_
      refine wiload C X140 f0_336 rfl ?_
      refine wif_eq C X140 f0_338 (fun q => absurd q (by decide : ¬ ((1 : Int32) = (0 : Int32)))) ?_
      intro _
      refine wdload C X140 f0_341 rfl ?_
      refine wlload C X140 f0_343 rfl ?_
      refine wl2d C X140 f0_345 ?_
      refine wdcmp C X140 f0_346 (v := (cmpValue (FP.dcmp rv_140 (FP.l2d ex)) .l)) rfl ?_
      refine wif_ne C X140 f0_347 ?_ (fun q => absurd ((own_eq G140_0 hexd _).mpr (own_fin (G137_2 2 (by decide)) (G139_2 2 (by decide)) hz m1.2.1 hex)) q)
      intro _
      refine wiconst C X140 f0_350 (1 : Int32) rfl ?_
      refine wgoto C X140 f0_351 ?_
      refine wiretN C X140 (t := .boolean) (by simp) f0_355 rfl (1 : Int32) (by decide) (by decide) (by decide) ?_
      rw [eq140]
      exact ⟨rfl, N140⟩
    · obtain rfl : p0 = pk := by
        rcases hpk with ⟨q, r⟩ | ⟨q, r⟩ | ⟨q, r⟩ | ⟨q, r⟩ <;> first | exact r.symm | exact absurd q (by decide)
      have q146 := ((G19_1.keep K27 (ninS ne24 nin0)).keep K30 (ninS ne24 nin0))
      have q147 := ((G19_2.keep K27 (ninS ne24 nin0)).keep K30 (ninS ne24 nin0))
      have q148 := ((G19_3.keep K27 (ninS ne24 nin0)).keep K30 (ninS ne24 nin0))
      have q149 := ((G19_4.keep K27 (ninS G18_3 nin0)).keep K30 (ninS G18_3 nin0))
      have ne150 : b7 ≠ b16 := (Nat.ne_of_lt (Nat.lt_of_lt_of_le (Nat.lt_of_lt_of_eq (Nat.lt_of_lt_of_eq (Nat.lt_of_lt_of_eq (Nat.lt_of_lt_of_eq Vp7.lt W9.size.symm) W10.size.symm) W11.size.symm) W12.size.symm) (Nat.le_of_eq g16.symm)))
      have ne151 : b7 ≠ pl_18 := (Nat.ne_of_lt (Nat.lt_of_lt_of_le (Nat.lt_of_lt_of_le (Nat.lt_of_lt_of_eq (Nat.lt_of_lt_of_eq (Nat.lt_of_lt_of_eq (Nat.lt_of_lt_of_eq Vp7.lt W9.size.symm) W10.size.symm) W11.size.symm) W12.size.symm) E16.1) G18_2))
      have ne152 : b7 ≠ ph_18 := (Nat.ne_of_lt (Nat.lt_of_lt_of_le (Nat.lt_of_lt_of_le (Nat.lt_of_lt_of_eq (Nat.lt_of_lt_of_eq (Nat.lt_of_lt_of_eq (Nat.lt_of_lt_of_eq Vp7.lt W9.size.symm) W10.size.symm) W11.size.symm) W12.size.symm) E16.1) G18_1))
      have q153 := (((((V12.ext E16).keep K18 (ninS ne150 nin0)).keep K19 (ninS ne150 (ninS ne152 (ninS ne151 nin0)))).keep K27 (ninS ne151 nin0)).keep K30 (ninS ne151 nin0))
      refine wvirtual C X30 (y := (⟨"com/example/arbor_center/arborcenter/objective/UpperEnvelope", "reset", "([DI)V"⟩ : MethodName)) (z := (⟨"com/example/arbor_center/arborcenter/objective/UpperEnvelope", "reset", "([DI)V"⟩ : MethodName)) (tw_24 hw) (tw_25 hw) (notFace_of_selects (args := #[]) (mvT C.2.1 (tw_27 hw))) (tw_27 hw) (tw_26 hw) (tw_28 hw) (tw_13 hw) (by decide) (rm5_4 l Z a0 hw [] b16 b7 (4 : Int32) ph_18 pl_18 k1_18 k2_18 k7 (4 : Int32) (ls'_30) (FP.ddiv FP.dconst0 (4611686018427387904 : UInt64)) (FP.ddiv (4611686018427387904 : UInt64) (4611686018427387904 : UInt64)) (FP.ddiv (4616189618054758400 : UInt64) (4611686018427387904 : UInt64)) (FP.ddiv (4618441417868443648 : UInt64) (4611686018427387904 : UInt64)) (FP.l2d p0) (FP.l2d p1) (FP.l2d p2) (FP.l2d p3) T30.heap n0 (Nat.le_trans (Nat.le_trans q28 K27.1) K30.1) ((G19_0.keep K27).keep K30) q146 q147 q148 q149 G30_0 q153 (Nat.le_trans Z0 sz16) (Nat.le_trans Z0 szG18_1) (Nat.le_trans Z0 szG18_2) ne23 ne24 G18_3 ne150 ne152 ne151 rfl G30_1.1 hd_0 hd_1 hd_2 hd_3) rfl (a := b16) ((G19_0.keep K27).keep K30) f0_283 (argsL := [(.ref b7), (.int (4 : Int32))]) (rest := []) rfl rfl (lenOf pd_3 rfl) rfl (W := 0) (Nat.le_of_eq rfl) (by decide) (by decide) (by decide) (by decide) ?_
      intro v145 T145 L145 X145 q145
      obtain ⟨rfl, Nq145, K145, G145_0, G145_1, G145_2, G145_3, G145_4, G145_5⟩ := q145
      have N145 := Fr.app N30 Nq145
      show Go p e below s _ _ _ T145 (mkF m 286 #[.val (.int x1), .val (.int x2), .val (.int x3), .val (.int x4), .val (.long p0), .second, .val (.long p1), .second, .val (.long p2), .second, .val (.long p3), .second, .val (.int (0 : Int32)), .val (.int (4 : Int32)), .val (.long w1), .second, .val (.long d1), .second, .val (.long w2), .second, .val (.long d2), .second, .val (.ref b2), .val (.ref b7), .val (.long p0), .second, .val (.long ex), .second, .val (.ref b16), .unset, .unset, .unset] [])
      refine waload C X145 f0_286 rfl rfl ?_
      refine wiload C X145 f0_288 rfl ?_
      have q155 := (Nat.le_trans (Nat.le_trans (Nat.le_trans q28 K27.1) K30.1) K145.1)
      refine wvirtual C X145 (y := (⟨"com/example/arbor_center/arborcenter/objective/UpperEnvelope", "at", "(I)D"⟩ : MethodName)) (z := (⟨"com/example/arbor_center/arborcenter/objective/UpperEnvelope", "at", "(I)D"⟩ : MethodName)) (tw_37 hw) (tw_38 hw) (notFace_of_selects (args := #[]) (mvT C.2.1 (tw_40 hw))) (tw_40 hw) (tw_39 hw) (tw_41 hw) (tw_13 hw) (by decide) (rm7_4_0 l Z a0 hw [] b16 (0 : Int32) ph_18 pl_18 k1_18 k2_18 [(.double (FP.ddiv (FP.l2d p0) (4611686018427387904 : UInt64))), (.double (FP.ddiv (FP.l2d p1) (4611686018427387904 : UInt64))), (.double (FP.ddiv (FP.l2d p2) (4611686018427387904 : UInt64))), (.double (FP.ddiv (FP.l2d p3) (4611686018427387904 : UInt64)))] _ (own_P4 p0.toInt p1.toInt p2.toInt p3.toInt) (own_upd (own_upd (own_upd (own_upd (own_upd (own_upd (own_upd W'_30 0 0) 1 0) 2 0) 3 0) 4 0) 5 0) 6 0) (own_upd (own_upd (own_upd (own_upd (own_upd (own_upd (own_upd D'_30 0 0) 1 0) 2 0) 3 0) 4 0) 5 0) 6 0) T145.heap n0 q155 G145_1 G145_2 G145_3 G145_4 G145_5 rfl (own_Lz 6 (own_Lz 5 (own_Lz 4 (own_Lz 3 (own_Lz 2 (own_Lz 1 (own_Lz 0 G30_1 (by decide) rfl rfl) (by decide) rfl rfl) (by decide) rfl rfl) (by decide) rfl rfl) (by decide) rfl rfl) (by decide) rfl rfl) (by decide) rfl rfl) (own_Ps4 (by decide) (fun _ => own_l2p hp0 (by decide)) (fun _ => own_l2p hp1.2 (by decide)) (fun _ => own_l2p hp2.2 (by decide)) (fun _ => own_l2p hp3.2 (by decide)))) rfl (a := b16) G145_0 f0_290 (argsL := [(.int (0 : Int32))]) (rest := []) rfl rfl (lenOf pd_5 rfl) rfl (W := 0) (Nat.le_of_eq rfl) (by decide) (by decide) (by decide) (by decide) ?_
      intro v154 T154 L154 X154 q154
      obtain ⟨rv_154, rfl, Nq154, eq154, G154_0⟩ := q154
      have N154 := Fr.app N145 Nq154
      show Go p e below s _ _ _ T154 (mkF m 293 #[.val (.int x1), .val (.int x2), .val (.int x3), .val (.int x4), .val (.long p0), .second, .val (.long p1), .second, .val (.long p2), .second, .val (.long p3), .second, .val (.int (0 : Int32)), .val (.int (4 : Int32)), .val (.long w1), .second, .val (.long d1), .second, .val (.long w2), .second, .val (.long d2), .second, .val (.ref b2), .val (.ref b7), .val (.long p0), .second, .val (.long ex), .second, .val (.ref b16), .unset, .unset, .unset] [(.double rv_154)])
      refine wdconst0 C X154 f0_293 ?_
      refine wdcmp C X154 f0_294 (v := (cmpValue (FP.dcmp rv_154 FP.dconst0) .l)) rfl ?_
      have hz : own_pm 3 0 0 (4 - 1) (own_upd (own_upd (own_upd (own_upd (own_upd (own_upd (own_upd W'_30 0 0) 1 0) 2 0) 3 0) 4 0) 5 0) 6 0) (own_upd (own_upd (own_upd (own_upd (own_upd (own_upd (own_upd D'_30 0 0) 1 0) 2 0) 3 0) 4 0) 5 0) 6 0) ((own_P4 p0.toInt p1.toInt p2.toInt p3.toInt) 0) 0 = 0 := by simp [own_pm, own_upd]
      refine wif_ne C X154 f0_295 ?_ (fun q => absurd ((own_eq G154_0 (own_c 0 _ 0 (by decide +kernel) (by decide)) _).mpr hz) q)
      intro _
      refine wiconst C X154 f0_298 (1 : Int32) rfl ?_
      refine wgoto C X154 f0_299 ?_
      refine wistore C X154 f0_303 #[.val (.int x1), .val (.int x2), .val (.int x3), .val (.int x4), .val (.long p0), .second, .val (.long p1), .second, .val (.long p2), .second, .val (.long p3), .second, .val (.int (0 : Int32)), .val (.int (4 : Int32)), .val (.long w1), .second, .val (.long d1), .second, .val (.long w2), .second, .val (.long d2), .second, .val (.ref b2), .val (.ref b7), .val (.long p0), .second, .val (.long ex), .second, .val (.ref b16), .val (.int (1 : Int32)), .unset, .unset] rfl ?_
      refine waload C X154 f0_305 rfl rfl ?_
      refine wlload C X154 f0_307 rfl ?_
      refine wl2d C X154 f0_309 ?_
      refine wlload C X154 f0_310 rfl ?_
      refine wl2d C X154 f0_312 ?_
      refine wvirtual C X154 (y := (⟨"com/example/arbor_center/arborcenter/objective/UpperEnvelope", "add", "(DD)V"⟩ : MethodName)) (z := (⟨"com/example/arbor_center/arborcenter/objective/UpperEnvelope", "add", "(DD)V"⟩ : MethodName)) (tw_32 hw) (tw_33 hw) (notFace_of_selects (args := #[]) (mvT C.2.1 (tw_35 hw))) (tw_35 hw) (tw_34 hw) (tw_36 hw) (tw_13 hw) (by decide) (rm6 l Z a0 hw [] b16 (FP.l2d w1) (FP.l2d d1) ph_18 pl_18 k1_18 k2_18 4 [(.double (FP.ddiv (FP.l2d p0) (4611686018427387904 : UInt64))), (.double (FP.ddiv (FP.l2d p1) (4611686018427387904 : UInt64))), (.double (FP.ddiv (FP.l2d p2) (4611686018427387904 : UInt64))), (.double (FP.ddiv (FP.l2d p3) (4611686018427387904 : UInt64)))] _ (own_P4 p0.toInt p1.toInt p2.toInt p3.toInt) (own_upd (own_upd (own_upd (own_upd (own_upd (own_upd (own_upd W'_30 0 0) 1 0) 2 0) 3 0) 4 0) 5 0) 6 0) (own_upd (own_upd (own_upd (own_upd (own_upd (own_upd (own_upd D'_30 0 0) 1 0) 2 0) 3 0) 4 0) 5 0) 6 0) w1.toInt d1.toInt T145.heap n0 q155 G145_1 G145_2 G145_3 G145_4 G145_5 (Nat.le_trans Z0 szG18_2) ne24 G18_3 (own_Lz 6 (own_Lz 5 (own_Lz 4 (own_Lz 3 (own_Lz 2 (own_Lz 1 (own_Lz 0 G30_1 (by decide) rfl rfl) (by decide) rfl rfl) (by decide) rfl rfl) (by decide) rfl rfl) (by decide) rfl rfl) (by decide) rfl rfl) (by decide) rfl rfl) (own_Ps4 (by decide) (fun _ => own_l2p hp0 (by decide)) (fun _ => own_l2p hp1.2 (by decide)) (fun _ => own_l2p hp2.2 (by decide)) (fun _ => own_l2p hp3.2 (by decide))) (hm0 _ (by decide)) (by decide) (by decide) (own_wd hw1 hd1)) eq154 (a := b16) G145_0 f0_313 (argsL := [(.double (FP.l2d w1)), (.double (FP.l2d d1))]) (rest := []) rfl rfl (lenOf pd_4 rfl) rfl (W := 0) (Nat.le_of_eq rfl) (by decide) (by decide) (by decide) (by decide) ?_
      intro v156 T156 L156 X156 q156
      obtain ⟨ls'_156, W'_156, D'_156, rfl, Nq156, K156, G156_0, G156_1, G156_2⟩ := q156
      have q157 := (Nat.le_trans (Nat.le_trans (Nat.le_trans q29 K27.1) K30.1) K145.1)
      have N156 := Fr.app N154 Nq156
      show Go p e below s _ _ _ T156 (mkF m 316 #[.val (.int x1), .val (.int x2), .val (.int x3), .val (.int x4), .val (.long p0), .second, .val (.long p1), .second, .val (.long p2), .second, .val (.long p3), .second, .val (.int (0 : Int32)), .val (.int (4 : Int32)), .val (.long w1), .second, .val (.long d1), .second, .val (.long w2), .second, .val (.long d2), .second, .val (.ref b2), .val (.ref b7), .val (.long p0), .second, .val (.long ex), .second, .val (.ref b16), .val (.int (1 : Int32)), .unset, .unset] [])
      refine waload C X156 f0_316 rfl rfl ?_
      refine wlload C X156 f0_318 rfl ?_
      refine wl2d C X156 f0_320 ?_
      refine wlload C X156 f0_321 rfl ?_
      refine wl2d C X156 f0_323 ?_
      refine wvirtual C X156 (y := (⟨"com/example/arbor_center/arborcenter/objective/UpperEnvelope", "add", "(DD)V"⟩ : MethodName)) (z := (⟨"com/example/arbor_center/arborcenter/objective/UpperEnvelope", "add", "(DD)V"⟩ : MethodName)) (tw_32 hw) (tw_33 hw) (notFace_of_selects (args := #[]) (mvT C.2.1 (tw_35 hw))) (tw_35 hw) (tw_34 hw) (tw_36 hw) (tw_13 hw) (by decide) (rm6 l Z a0 hw [] b16 (FP.l2d w2) (FP.l2d d2) ph_18 pl_18 k1_18 k2_18 4 [(.double (FP.ddiv (FP.l2d p0) (4611686018427387904 : UInt64))), (.double (FP.ddiv (FP.l2d p1) (4611686018427387904 : UInt64))), (.double (FP.ddiv (FP.l2d p2) (4611686018427387904 : UInt64))), (.double (FP.ddiv (FP.l2d p3) (4611686018427387904 : UInt64)))] (ls'_156) (own_P4 p0.toInt p1.toInt p2.toInt p3.toInt) (W'_156) (D'_156) w2.toInt d2.toInt T156.heap n0 (Nat.le_trans q155 K156.1) (G145_1.keep K156 (ninS ne24 nin0)) (G145_2.keep K156 (ninS ne24 nin0)) (G145_3.keep K156 (ninS ne24 nin0)) (G145_4.keep K156 (ninS G18_3 nin0)) G156_0 (Nat.le_trans Z0 szG18_2) ne24 G18_3 G156_1 (own_Ps4 (by decide) (fun _ => own_l2p hp0 (by decide)) (fun _ => own_l2p hp1.2 (by decide)) (fun _ => own_l2p hp2.2 (by decide)) (fun _ => own_l2p hp3.2 (by decide))) (hm0 _ (by decide)) (by decide) (by decide) (own_wd hw2 hd2)) rfl (a := b16) (G145_0.keep K156) f0_324 (argsL := [(.double (FP.l2d w2)), (.double (FP.l2d d2))]) (rest := []) rfl rfl (lenOf pd_4 rfl) rfl (W := 0) (Nat.le_of_eq rfl) (by decide) (by decide) (by decide) (by decide) ?_
      intro v158 T158 L158 X158 q158
      obtain ⟨ls'_158, W'_158, D'_158, rfl, Nq158, K158, G158_0, G158_1, G158_2⟩ := q158
      have N158 := Fr.app N156 Nq158
      show Go p e below s _ _ _ T158 (mkF m 327 #[.val (.int x1), .val (.int x2), .val (.int x3), .val (.int x4), .val (.long p0), .second, .val (.long p1), .second, .val (.long p2), .second, .val (.long p3), .second, .val (.int (0 : Int32)), .val (.int (4 : Int32)), .val (.long w1), .second, .val (.long d1), .second, .val (.long w2), .second, .val (.long d2), .second, .val (.ref b2), .val (.ref b7), .val (.long p0), .second, .val (.long ex), .second, .val (.ref b16), .val (.int (1 : Int32)), .unset, .unset] [])
      refine waload C X158 f0_327 rfl rfl ?_
      refine wiload C X158 f0_329 rfl ?_
      have q160 := ((G145_1.keep K156 (ninS ne24 nin0)).keep K158 (ninS ne24 nin0))
      have q161 := ((G145_2.keep K156 (ninS ne24 nin0)).keep K158 (ninS ne24 nin0))
      have q162 := ((G145_3.keep K156 (ninS ne24 nin0)).keep K158 (ninS ne24 nin0))
      have q163 := ((G145_4.keep K156 (ninS G18_3 nin0)).keep K158 (ninS G18_3 nin0))
      refine wvirtual C X158 (y := (⟨"com/example/arbor_center/arborcenter/objective/UpperEnvelope", "at", "(I)D"⟩ : MethodName)) (z := (⟨"com/example/arbor_center/arborcenter/objective/UpperEnvelope", "at", "(I)D"⟩ : MethodName)) (tw_37 hw) (tw_38 hw) (notFace_of_selects (args := #[]) (mvT C.2.1 (tw_40 hw))) (tw_40 hw) (tw_39 hw) (tw_41 hw) (tw_13 hw) (by decide) (rm7_4_0 l Z a0 hw [] b16 (0 : Int32) ph_18 pl_18 k1_18 k2_18 [(.double (FP.ddiv (FP.l2d p0) (4611686018427387904 : UInt64))), (.double (FP.ddiv (FP.l2d p1) (4611686018427387904 : UInt64))), (.double (FP.ddiv (FP.l2d p2) (4611686018427387904 : UInt64))), (.double (FP.ddiv (FP.l2d p3) (4611686018427387904 : UInt64)))] (ls'_158) (own_P4 p0.toInt p1.toInt p2.toInt p3.toInt) (W'_158) (D'_158) T158.heap n0 (Nat.le_trans (Nat.le_trans q155 K156.1) K158.1) q160 q161 q162 q163 G158_0 rfl G158_1 (own_Ps4 (by decide) (fun _ => own_l2p hp0 (by decide)) (fun _ => own_l2p hp1.2 (by decide)) (fun _ => own_l2p hp2.2 (by decide)) (fun _ => own_l2p hp3.2 (by decide)))) rfl (a := b16) ((G145_0.keep K156).keep K158) f0_331 (argsL := [(.int (0 : Int32))]) (rest := []) rfl rfl (lenOf pd_5 rfl) rfl (W := 0) (Nat.le_of_eq rfl) (by decide) (by decide) (by decide) (by decide) ?_
      intro v159 T159 L159 X159 q159
      obtain ⟨rv_159, rfl, Nq159, eq159, G159_0⟩ := q159
      have N159 := Fr.app N158 Nq159
      show Go p e below s _ _ _ T159 (mkF m 334 #[.val (.int x1), .val (.int x2), .val (.int x3), .val (.int x4), .val (.long p0), .second, .val (.long p1), .second, .val (.long p2), .second, .val (.long p3), .second, .val (.int (0 : Int32)), .val (.int (4 : Int32)), .val (.long w1), .second, .val (.long d1), .second, .val (.long w2), .second, .val (.long d2), .second, .val (.ref b2), .val (.ref b7), .val (.long p0), .second, .val (.long ex), .second, .val (.ref b16), .val (.int (1 : Int32)), .unset, .unset] [(.double rv_159)])
      refine wdstore C X159 f0_334 #[.val (.int x1), .val (.int x2), .val (.int x3), .val (.int x4), .val (.long p0), .second, .val (.long p1), .second, .val (.long p2), .second, .val (.long p3), .second, .val (.int (0 : Int32)), .val (.int (4 : Int32)), .val (.long w1), .second, .val (.long d1), .second, .val (.long w2), .second, .val (.long d2), .second, .val (.ref b2), .val (.ref b7), .val (.long p0), .second, .val (.long ex), .second, .val (.ref b16), .val (.int (1 : Int32)), .val (.double rv_159), .second] rfl ?_
      refine wiload C X159 f0_336 rfl ?_
      refine wif_eq C X159 f0_338 (fun q => absurd q (by decide : ¬ ((1 : Int32) = (0 : Int32)))) ?_
      intro _
      refine wdload C X159 f0_341 rfl ?_
      refine wlload C X159 f0_343 rfl ?_
      refine wl2d C X159 f0_345 ?_
      refine wdcmp C X159 f0_346 (v := (cmpValue (FP.dcmp rv_159 (FP.l2d ex)) .l)) rfl ?_
      refine wif_ne C X159 f0_347 ?_ (fun q => absurd ((own_eq G159_0 hexd _).mpr (own_fin (G156_2 0 (by decide)) (G158_2 0 (by decide)) hz m1.2.1 hex)) q)
      intro _
      refine wiconst C X159 f0_350 (1 : Int32) rfl ?_
      refine wgoto C X159 f0_351 ?_
      refine wiretN C X159 (t := .boolean) (by simp) f0_355 rfl (1 : Int32) (by decide) (by decide) (by decide) ?_
      rw [eq159]
      exact ⟨rfl, N159⟩
    · obtain rfl : p1 = pk := by
        rcases hpk with ⟨q, r⟩ | ⟨q, r⟩ | ⟨q, r⟩ | ⟨q, r⟩ <;> first | exact r.symm | exact absurd q (by decide)
      have q165 := ((G19_1.keep K27 (ninS ne24 nin0)).keep K30 (ninS ne24 nin0))
      have q166 := ((G19_2.keep K27 (ninS ne24 nin0)).keep K30 (ninS ne24 nin0))
      have q167 := ((G19_3.keep K27 (ninS ne24 nin0)).keep K30 (ninS ne24 nin0))
      have q168 := ((G19_4.keep K27 (ninS G18_3 nin0)).keep K30 (ninS G18_3 nin0))
      have ne169 : b7 ≠ b16 := (Nat.ne_of_lt (Nat.lt_of_lt_of_le (Nat.lt_of_lt_of_eq (Nat.lt_of_lt_of_eq (Nat.lt_of_lt_of_eq (Nat.lt_of_lt_of_eq Vp7.lt W9.size.symm) W10.size.symm) W11.size.symm) W12.size.symm) (Nat.le_of_eq g16.symm)))
      have ne170 : b7 ≠ pl_18 := (Nat.ne_of_lt (Nat.lt_of_lt_of_le (Nat.lt_of_lt_of_le (Nat.lt_of_lt_of_eq (Nat.lt_of_lt_of_eq (Nat.lt_of_lt_of_eq (Nat.lt_of_lt_of_eq Vp7.lt W9.size.symm) W10.size.symm) W11.size.symm) W12.size.symm) E16.1) G18_2))
      have ne171 : b7 ≠ ph_18 := (Nat.ne_of_lt (Nat.lt_of_lt_of_le (Nat.lt_of_lt_of_le (Nat.lt_of_lt_of_eq (Nat.lt_of_lt_of_eq (Nat.lt_of_lt_of_eq (Nat.lt_of_lt_of_eq Vp7.lt W9.size.symm) W10.size.symm) W11.size.symm) W12.size.symm) E16.1) G18_1))
      have q172 := (((((V12.ext E16).keep K18 (ninS ne169 nin0)).keep K19 (ninS ne169 (ninS ne171 (ninS ne170 nin0)))).keep K27 (ninS ne170 nin0)).keep K30 (ninS ne170 nin0))
      refine wvirtual C X30 (y := (⟨"com/example/arbor_center/arborcenter/objective/UpperEnvelope", "reset", "([DI)V"⟩ : MethodName)) (z := (⟨"com/example/arbor_center/arborcenter/objective/UpperEnvelope", "reset", "([DI)V"⟩ : MethodName)) (tw_24 hw) (tw_25 hw) (notFace_of_selects (args := #[]) (mvT C.2.1 (tw_27 hw))) (tw_27 hw) (tw_26 hw) (tw_28 hw) (tw_13 hw) (by decide) (rm5_4 l Z a0 hw [] b16 b7 (4 : Int32) ph_18 pl_18 k1_18 k2_18 k7 (4 : Int32) (ls'_30) (FP.ddiv FP.dconst0 (4611686018427387904 : UInt64)) (FP.ddiv (4611686018427387904 : UInt64) (4611686018427387904 : UInt64)) (FP.ddiv (4616189618054758400 : UInt64) (4611686018427387904 : UInt64)) (FP.ddiv (4618441417868443648 : UInt64) (4611686018427387904 : UInt64)) (FP.l2d p0) (FP.l2d p1) (FP.l2d p2) (FP.l2d p3) T30.heap n0 (Nat.le_trans (Nat.le_trans q28 K27.1) K30.1) ((G19_0.keep K27).keep K30) q165 q166 q167 q168 G30_0 q172 (Nat.le_trans Z0 sz16) (Nat.le_trans Z0 szG18_1) (Nat.le_trans Z0 szG18_2) ne23 ne24 G18_3 ne169 ne171 ne170 rfl G30_1.1 hd_0 hd_1 hd_2 hd_3) rfl (a := b16) ((G19_0.keep K27).keep K30) f0_283 (argsL := [(.ref b7), (.int (4 : Int32))]) (rest := []) rfl rfl (lenOf pd_3 rfl) rfl (W := 0) (Nat.le_of_eq rfl) (by decide) (by decide) (by decide) (by decide) ?_
      intro v164 T164 L164 X164 q164
      obtain ⟨rfl, Nq164, K164, G164_0, G164_1, G164_2, G164_3, G164_4, G164_5⟩ := q164
      have N164 := Fr.app N30 Nq164
      show Go p e below s _ _ _ T164 (mkF m 286 #[.val (.int x1), .val (.int x2), .val (.int x3), .val (.int x4), .val (.long p0), .second, .val (.long p1), .second, .val (.long p2), .second, .val (.long p3), .second, .val (.int (1 : Int32)), .val (.int (4 : Int32)), .val (.long w1), .second, .val (.long d1), .second, .val (.long w2), .second, .val (.long d2), .second, .val (.ref b2), .val (.ref b7), .val (.long p1), .second, .val (.long ex), .second, .val (.ref b16), .unset, .unset, .unset] [])
      refine waload C X164 f0_286 rfl rfl ?_
      refine wiload C X164 f0_288 rfl ?_
      have q174 := (Nat.le_trans (Nat.le_trans (Nat.le_trans q28 K27.1) K30.1) K164.1)
      refine wvirtual C X164 (y := (⟨"com/example/arbor_center/arborcenter/objective/UpperEnvelope", "at", "(I)D"⟩ : MethodName)) (z := (⟨"com/example/arbor_center/arborcenter/objective/UpperEnvelope", "at", "(I)D"⟩ : MethodName)) (tw_37 hw) (tw_38 hw) (notFace_of_selects (args := #[]) (mvT C.2.1 (tw_40 hw))) (tw_40 hw) (tw_39 hw) (tw_41 hw) (tw_13 hw) (by decide) (rm7_4_1 l Z a0 hw [] b16 (1 : Int32) ph_18 pl_18 k1_18 k2_18 [(.double (FP.ddiv (FP.l2d p0) (4611686018427387904 : UInt64))), (.double (FP.ddiv (FP.l2d p1) (4611686018427387904 : UInt64))), (.double (FP.ddiv (FP.l2d p2) (4611686018427387904 : UInt64))), (.double (FP.ddiv (FP.l2d p3) (4611686018427387904 : UInt64)))] _ (own_P4 p0.toInt p1.toInt p2.toInt p3.toInt) (own_upd (own_upd (own_upd (own_upd (own_upd (own_upd (own_upd W'_30 0 0) 1 0) 2 0) 3 0) 4 0) 5 0) 6 0) (own_upd (own_upd (own_upd (own_upd (own_upd (own_upd (own_upd D'_30 0 0) 1 0) 2 0) 3 0) 4 0) 5 0) 6 0) T164.heap n0 q174 G164_1 G164_2 G164_3 G164_4 G164_5 rfl (own_Lz 6 (own_Lz 5 (own_Lz 4 (own_Lz 3 (own_Lz 2 (own_Lz 1 (own_Lz 0 G30_1 (by decide) rfl rfl) (by decide) rfl rfl) (by decide) rfl rfl) (by decide) rfl rfl) (by decide) rfl rfl) (by decide) rfl rfl) (by decide) rfl rfl) (own_Ps4 (by decide) (fun _ => own_l2p hp0 (by decide)) (fun _ => own_l2p hp1.2 (by decide)) (fun _ => own_l2p hp2.2 (by decide)) (fun _ => own_l2p hp3.2 (by decide)))) rfl (a := b16) G164_0 f0_290 (argsL := [(.int (1 : Int32))]) (rest := []) rfl rfl (lenOf pd_5 rfl) rfl (W := 0) (Nat.le_of_eq rfl) (by decide) (by decide) (by decide) (by decide) ?_
      intro v173 T173 L173 X173 q173
      obtain ⟨rv_173, rfl, Nq173, eq173, G173_0⟩ := q173
      have N173 := Fr.app N164 Nq173
      show Go p e below s _ _ _ T173 (mkF m 293 #[.val (.int x1), .val (.int x2), .val (.int x3), .val (.int x4), .val (.long p0), .second, .val (.long p1), .second, .val (.long p2), .second, .val (.long p3), .second, .val (.int (1 : Int32)), .val (.int (4 : Int32)), .val (.long w1), .second, .val (.long d1), .second, .val (.long w2), .second, .val (.long d2), .second, .val (.ref b2), .val (.ref b7), .val (.long p1), .second, .val (.long ex), .second, .val (.ref b16), .unset, .unset, .unset] [(.double rv_173)])
      refine wdconst0 C X173 f0_293 ?_
      refine wdcmp C X173 f0_294 (v := (cmpValue (FP.dcmp rv_173 FP.dconst0) .l)) rfl ?_
      have hz : own_pm 3 0 0 (4 - 1) (own_upd (own_upd (own_upd (own_upd (own_upd (own_upd (own_upd W'_30 0 0) 1 0) 2 0) 3 0) 4 0) 5 0) 6 0) (own_upd (own_upd (own_upd (own_upd (own_upd (own_upd (own_upd D'_30 0 0) 1 0) 2 0) 3 0) 4 0) 5 0) 6 0) ((own_P4 p0.toInt p1.toInt p2.toInt p3.toInt) 1) 1 = 0 := by simp [own_pm, own_upd]
      refine wif_ne C X173 f0_295 ?_ (fun q => absurd ((own_eq G173_0 (own_c 0 _ 0 (by decide +kernel) (by decide)) _).mpr hz) q)
      intro _
      refine wiconst C X173 f0_298 (1 : Int32) rfl ?_
      refine wgoto C X173 f0_299 ?_
      refine wistore C X173 f0_303 #[.val (.int x1), .val (.int x2), .val (.int x3), .val (.int x4), .val (.long p0), .second, .val (.long p1), .second, .val (.long p2), .second, .val (.long p3), .second, .val (.int (1 : Int32)), .val (.int (4 : Int32)), .val (.long w1), .second, .val (.long d1), .second, .val (.long w2), .second, .val (.long d2), .second, .val (.ref b2), .val (.ref b7), .val (.long p1), .second, .val (.long ex), .second, .val (.ref b16), .val (.int (1 : Int32)), .unset, .unset] rfl ?_
      refine waload C X173 f0_305 rfl rfl ?_
      refine wlload C X173 f0_307 rfl ?_
      refine wl2d C X173 f0_309 ?_
      refine wlload C X173 f0_310 rfl ?_
      refine wl2d C X173 f0_312 ?_
      refine wvirtual C X173 (y := (⟨"com/example/arbor_center/arborcenter/objective/UpperEnvelope", "add", "(DD)V"⟩ : MethodName)) (z := (⟨"com/example/arbor_center/arborcenter/objective/UpperEnvelope", "add", "(DD)V"⟩ : MethodName)) (tw_32 hw) (tw_33 hw) (notFace_of_selects (args := #[]) (mvT C.2.1 (tw_35 hw))) (tw_35 hw) (tw_34 hw) (tw_36 hw) (tw_13 hw) (by decide) (rm6 l Z a0 hw [] b16 (FP.l2d w1) (FP.l2d d1) ph_18 pl_18 k1_18 k2_18 4 [(.double (FP.ddiv (FP.l2d p0) (4611686018427387904 : UInt64))), (.double (FP.ddiv (FP.l2d p1) (4611686018427387904 : UInt64))), (.double (FP.ddiv (FP.l2d p2) (4611686018427387904 : UInt64))), (.double (FP.ddiv (FP.l2d p3) (4611686018427387904 : UInt64)))] _ (own_P4 p0.toInt p1.toInt p2.toInt p3.toInt) (own_upd (own_upd (own_upd (own_upd (own_upd (own_upd (own_upd W'_30 0 0) 1 0) 2 0) 3 0) 4 0) 5 0) 6 0) (own_upd (own_upd (own_upd (own_upd (own_upd (own_upd (own_upd D'_30 0 0) 1 0) 2 0) 3 0) 4 0) 5 0) 6 0) w1.toInt d1.toInt T164.heap n0 q174 G164_1 G164_2 G164_3 G164_4 G164_5 (Nat.le_trans Z0 szG18_2) ne24 G18_3 (own_Lz 6 (own_Lz 5 (own_Lz 4 (own_Lz 3 (own_Lz 2 (own_Lz 1 (own_Lz 0 G30_1 (by decide) rfl rfl) (by decide) rfl rfl) (by decide) rfl rfl) (by decide) rfl rfl) (by decide) rfl rfl) (by decide) rfl rfl) (by decide) rfl rfl) (own_Ps4 (by decide) (fun _ => own_l2p hp0 (by decide)) (fun _ => own_l2p hp1.2 (by decide)) (fun _ => own_l2p hp2.2 (by decide)) (fun _ => own_l2p hp3.2 (by decide))) (hm0 _ (by decide)) (by decide) (by decide) (own_wd hw1 hd1)) eq173 (a := b16) G164_0 f0_313 (argsL := [(.double (FP.l2d w1)), (.double (FP.l2d d1))]) (rest := []) rfl rfl (lenOf pd_4 rfl) rfl (W := 0) (Nat.le_of_eq rfl) (by decide) (by decide) (by decide) (by decide) ?_
      intro v175 T175 L175 X175 q175
      obtain ⟨ls'_175, W'_175, D'_175, rfl, Nq175, K175, G175_0, G175_1, G175_2⟩ := q175
      have q176 := (Nat.le_trans (Nat.le_trans (Nat.le_trans q29 K27.1) K30.1) K164.1)
      have N175 := Fr.app N173 Nq175
      show Go p e below s _ _ _ T175 (mkF m 316 #[.val (.int x1), .val (.int x2), .val (.int x3), .val (.int x4), .val (.long p0), .second, .val (.long p1), .second, .val (.long p2), .second, .val (.long p3), .second, .val (.int (1 : Int32)), .val (.int (4 : Int32)), .val (.long w1), .second, .val (.long d1), .second, .val (.long w2), .second, .val (.long d2), .second, .val (.ref b2), .val (.ref b7), .val (.long p1), .second, .val (.long ex), .second, .val (.ref b16), .val (.int (1 : Int32)), .unset, .unset] [])
      refine waload C X175 f0_316 rfl rfl ?_
      refine wlload C X175 f0_318 rfl ?_
      refine wl2d C X175 f0_320 ?_
      refine wlload C X175 f0_321 rfl ?_
      refine wl2d C X175 f0_323 ?_
      refine wvirtual C X175 (y := (⟨"com/example/arbor_center/arborcenter/objective/UpperEnvelope", "add", "(DD)V"⟩ : MethodName)) (z := (⟨"com/example/arbor_center/arborcenter/objective/UpperEnvelope", "add", "(DD)V"⟩ : MethodName)) (tw_32 hw) (tw_33 hw) (notFace_of_selects (args := #[]) (mvT C.2.1 (tw_35 hw))) (tw_35 hw) (tw_34 hw) (tw_36 hw) (tw_13 hw) (by decide) (rm6 l Z a0 hw [] b16 (FP.l2d w2) (FP.l2d d2) ph_18 pl_18 k1_18 k2_18 4 [(.double (FP.ddiv (FP.l2d p0) (4611686018427387904 : UInt64))), (.double (FP.ddiv (FP.l2d p1) (4611686018427387904 : UInt64))), (.double (FP.ddiv (FP.l2d p2) (4611686018427387904 : UInt64))), (.double (FP.ddiv (FP.l2d p3) (4611686018427387904 : UInt64)))] (ls'_175) (own_P4 p0.toInt p1.toInt p2.toInt p3.toInt) (W'_175) (D'_175) w2.toInt d2.toInt T175.heap n0 (Nat.le_trans q174 K175.1) (G164_1.keep K175 (ninS ne24 nin0)) (G164_2.keep K175 (ninS ne24 nin0)) (G164_3.keep K175 (ninS ne24 nin0)) (G164_4.keep K175 (ninS G18_3 nin0)) G175_0 (Nat.le_trans Z0 szG18_2) ne24 G18_3 G175_1 (own_Ps4 (by decide) (fun _ => own_l2p hp0 (by decide)) (fun _ => own_l2p hp1.2 (by decide)) (fun _ => own_l2p hp2.2 (by decide)) (fun _ => own_l2p hp3.2 (by decide))) (hm0 _ (by decide)) (by decide) (by decide) (own_wd hw2 hd2)) rfl (a := b16) (G164_0.keep K175) f0_324 (argsL := [(.double (FP.l2d w2)), (.double (FP.l2d d2))]) (rest := []) rfl rfl (lenOf pd_4 rfl) rfl (W := 0) (Nat.le_of_eq rfl) (by decide) (by decide) (by decide) (by decide) ?_
      intro v177 T177 L177 X177 q177
      obtain ⟨ls'_177, W'_177, D'_177, rfl, Nq177, K177, G177_0, G177_1, G177_2⟩ := q177
      have N177 := Fr.app N175 Nq177
      show Go p e below s _ _ _ T177 (mkF m 327 #[.val (.int x1), .val (.int x2), .val (.int x3), .val (.int x4), .val (.long p0), .second, .val (.long p1), .second, .val (.long p2), .second, .val (.long p3), .second, .val (.int (1 : Int32)), .val (.int (4 : Int32)), .val (.long w1), .second, .val (.long d1), .second, .val (.long w2), .second, .val (.long d2), .second, .val (.ref b2), .val (.ref b7), .val (.long p1), .second, .val (.long ex), .second, .val (.ref b16), .val (.int (1 : Int32)), .unset, .unset] [])
      refine waload C X177 f0_327 rfl rfl ?_
      refine wiload C X177 f0_329 rfl ?_
      have q179 := ((G164_1.keep K175 (ninS ne24 nin0)).keep K177 (ninS ne24 nin0))
      have q180 := ((G164_2.keep K175 (ninS ne24 nin0)).keep K177 (ninS ne24 nin0))
      have q181 := ((G164_3.keep K175 (ninS ne24 nin0)).keep K177 (ninS ne24 nin0))
      have q182 := ((G164_4.keep K175 (ninS G18_3 nin0)).keep K177 (ninS G18_3 nin0))
      refine wvirtual C X177 (y := (⟨"com/example/arbor_center/arborcenter/objective/UpperEnvelope", "at", "(I)D"⟩ : MethodName)) (z := (⟨"com/example/arbor_center/arborcenter/objective/UpperEnvelope", "at", "(I)D"⟩ : MethodName)) (tw_37 hw) (tw_38 hw) (notFace_of_selects (args := #[]) (mvT C.2.1 (tw_40 hw))) (tw_40 hw) (tw_39 hw) (tw_41 hw) (tw_13 hw) (by decide) (rm7_4_1 l Z a0 hw [] b16 (1 : Int32) ph_18 pl_18 k1_18 k2_18 [(.double (FP.ddiv (FP.l2d p0) (4611686018427387904 : UInt64))), (.double (FP.ddiv (FP.l2d p1) (4611686018427387904 : UInt64))), (.double (FP.ddiv (FP.l2d p2) (4611686018427387904 : UInt64))), (.double (FP.ddiv (FP.l2d p3) (4611686018427387904 : UInt64)))] (ls'_177) (own_P4 p0.toInt p1.toInt p2.toInt p3.toInt) (W'_177) (D'_177) T177.heap n0 (Nat.le_trans (Nat.le_trans q174 K175.1) K177.1) q179 q180 q181 q182 G177_0 rfl G177_1 (own_Ps4 (by decide) (fun _ => own_l2p hp0 (by decide)) (fun _ => own_l2p hp1.2 (by decide)) (fun _ => own_l2p hp2.2 (by decide)) (fun _ => own_l2p hp3.2 (by decide)))) rfl (a := b16) ((G164_0.keep K175).keep K177) f0_331 (argsL := [(.int (1 : Int32))]) (rest := []) rfl rfl (lenOf pd_5 rfl) rfl (W := 0) (Nat.le_of_eq rfl) (by decide) (by decide) (by decide) (by decide) ?_
      intro v178 T178 L178 X178 q178
      obtain ⟨rv_178, rfl, Nq178, eq178, G178_0⟩ := q178
      have N178 := Fr.app N177 Nq178
      show Go p e below s _ _ _ T178 (mkF m 334 #[.val (.int x1), .val (.int x2), .val (.int x3), .val (.int x4), .val (.long p0), .second, .val (.long p1), .second, .val (.long p2), .second, .val (.long p3), .second, .val (.int (1 : Int32)), .val (.int (4 : Int32)), .val (.long w1), .second, .val (.long d1), .second, .val (.long w2), .second, .val (.long d2), .second, .val (.ref b2), .val (.ref b7), .val (.long p1), .second, .val (.long ex), .second, .val (.ref b16), .val (.int (1 : Int32)), .unset, .unset] [(.double rv_178)])
      refine wdstore C X178 f0_334 #[.val (.int x1), .val (.int x2), .val (.int x3), .val (.int x4), .val (.long p0), .second, .val (.long p1), .second, .val (.long p2), .second, .val (.long p3), .second, .val (.int (1 : Int32)), .val (.int (4 : Int32)), .val (.long w1), .second, .val (.long d1), .second, .val (.long w2), .second, .val (.long d2), .second, .val (.ref b2), .val (.ref b7), .val (.long p1), .second, .val (.long ex), .second, .val (.ref b16), .val (.int (1 : Int32)), .val (.double rv_178), .second] rfl ?_
      refine wiload C X178 f0_336 rfl ?_
      refine wif_eq C X178 f0_338 (fun q => absurd q (by decide : ¬ ((1 : Int32) = (0 : Int32)))) ?_
      intro _
      refine wdload C X178 f0_341 rfl ?_
      refine wlload C X178 f0_343 rfl ?_
      refine wl2d C X178 f0_345 ?_
      refine wdcmp C X178 f0_346 (v := (cmpValue (FP.dcmp rv_178 (FP.l2d ex)) .l)) rfl ?_
      refine wif_ne C X178 f0_347 ?_ (fun q => absurd ((own_eq G178_0 hexd _).mpr (own_fin (G175_2 1 (by decide)) (G177_2 1 (by decide)) hz m1.2.1 hex)) q)
      intro _
      refine wiconst C X178 f0_350 (1 : Int32) rfl ?_
      refine wgoto C X178 f0_351 ?_
      refine wiretN C X178 (t := .boolean) (by simp) f0_355 rfl (1 : Int32) (by decide) (by decide) (by decide) ?_
      rw [eq178]
      exact ⟨rfl, N178⟩
    · obtain rfl : p2 = pk := by
        rcases hpk with ⟨q, r⟩ | ⟨q, r⟩ | ⟨q, r⟩ | ⟨q, r⟩ <;> first | exact r.symm | exact absurd q (by decide)
      have q184 := ((G19_1.keep K27 (ninS ne24 nin0)).keep K30 (ninS ne24 nin0))
      have q185 := ((G19_2.keep K27 (ninS ne24 nin0)).keep K30 (ninS ne24 nin0))
      have q186 := ((G19_3.keep K27 (ninS ne24 nin0)).keep K30 (ninS ne24 nin0))
      have q187 := ((G19_4.keep K27 (ninS G18_3 nin0)).keep K30 (ninS G18_3 nin0))
      have ne188 : b7 ≠ b16 := (Nat.ne_of_lt (Nat.lt_of_lt_of_le (Nat.lt_of_lt_of_eq (Nat.lt_of_lt_of_eq (Nat.lt_of_lt_of_eq (Nat.lt_of_lt_of_eq Vp7.lt W9.size.symm) W10.size.symm) W11.size.symm) W12.size.symm) (Nat.le_of_eq g16.symm)))
      have ne189 : b7 ≠ pl_18 := (Nat.ne_of_lt (Nat.lt_of_lt_of_le (Nat.lt_of_lt_of_le (Nat.lt_of_lt_of_eq (Nat.lt_of_lt_of_eq (Nat.lt_of_lt_of_eq (Nat.lt_of_lt_of_eq Vp7.lt W9.size.symm) W10.size.symm) W11.size.symm) W12.size.symm) E16.1) G18_2))
      have ne190 : b7 ≠ ph_18 := (Nat.ne_of_lt (Nat.lt_of_lt_of_le (Nat.lt_of_lt_of_le (Nat.lt_of_lt_of_eq (Nat.lt_of_lt_of_eq (Nat.lt_of_lt_of_eq (Nat.lt_of_lt_of_eq Vp7.lt W9.size.symm) W10.size.symm) W11.size.symm) W12.size.symm) E16.1) G18_1))
      have q191 := (((((V12.ext E16).keep K18 (ninS ne188 nin0)).keep K19 (ninS ne188 (ninS ne190 (ninS ne189 nin0)))).keep K27 (ninS ne189 nin0)).keep K30 (ninS ne189 nin0))
      refine wvirtual C X30 (y := (⟨"com/example/arbor_center/arborcenter/objective/UpperEnvelope", "reset", "([DI)V"⟩ : MethodName)) (z := (⟨"com/example/arbor_center/arborcenter/objective/UpperEnvelope", "reset", "([DI)V"⟩ : MethodName)) (tw_24 hw) (tw_25 hw) (notFace_of_selects (args := #[]) (mvT C.2.1 (tw_27 hw))) (tw_27 hw) (tw_26 hw) (tw_28 hw) (tw_13 hw) (by decide) (rm5_4 l Z a0 hw [] b16 b7 (4 : Int32) ph_18 pl_18 k1_18 k2_18 k7 (4 : Int32) (ls'_30) (FP.ddiv FP.dconst0 (4611686018427387904 : UInt64)) (FP.ddiv (4611686018427387904 : UInt64) (4611686018427387904 : UInt64)) (FP.ddiv (4616189618054758400 : UInt64) (4611686018427387904 : UInt64)) (FP.ddiv (4618441417868443648 : UInt64) (4611686018427387904 : UInt64)) (FP.l2d p0) (FP.l2d p1) (FP.l2d p2) (FP.l2d p3) T30.heap n0 (Nat.le_trans (Nat.le_trans q28 K27.1) K30.1) ((G19_0.keep K27).keep K30) q184 q185 q186 q187 G30_0 q191 (Nat.le_trans Z0 sz16) (Nat.le_trans Z0 szG18_1) (Nat.le_trans Z0 szG18_2) ne23 ne24 G18_3 ne188 ne190 ne189 rfl G30_1.1 hd_0 hd_1 hd_2 hd_3) rfl (a := b16) ((G19_0.keep K27).keep K30) f0_283 (argsL := [(.ref b7), (.int (4 : Int32))]) (rest := []) rfl rfl (lenOf pd_3 rfl) rfl (W := 0) (Nat.le_of_eq rfl) (by decide) (by decide) (by decide) (by decide) ?_
      intro v183 T183 L183 X183 q183
      obtain ⟨rfl, Nq183, K183, G183_0, G183_1, G183_2, G183_3, G183_4, G183_5⟩ := q183
      have N183 := Fr.app N30 Nq183
      show Go p e below s _ _ _ T183 (mkF m 286 #[.val (.int x1), .val (.int x2), .val (.int x3), .val (.int x4), .val (.long p0), .second, .val (.long p1), .second, .val (.long p2), .second, .val (.long p3), .second, .val (.int (2 : Int32)), .val (.int (4 : Int32)), .val (.long w1), .second, .val (.long d1), .second, .val (.long w2), .second, .val (.long d2), .second, .val (.ref b2), .val (.ref b7), .val (.long p2), .second, .val (.long ex), .second, .val (.ref b16), .unset, .unset, .unset] [])
      refine waload C X183 f0_286 rfl rfl ?_
      refine wiload C X183 f0_288 rfl ?_
      have q193 := (Nat.le_trans (Nat.le_trans (Nat.le_trans q28 K27.1) K30.1) K183.1)
      refine wvirtual C X183 (y := (⟨"com/example/arbor_center/arborcenter/objective/UpperEnvelope", "at", "(I)D"⟩ : MethodName)) (z := (⟨"com/example/arbor_center/arborcenter/objective/UpperEnvelope", "at", "(I)D"⟩ : MethodName)) (tw_37 hw) (tw_38 hw) (notFace_of_selects (args := #[]) (mvT C.2.1 (tw_40 hw))) (tw_40 hw) (tw_39 hw) (tw_41 hw) (tw_13 hw) (by decide) (rm7_4_2 l Z a0 hw [] b16 (2 : Int32) ph_18 pl_18 k1_18 k2_18 [(.double (FP.ddiv (FP.l2d p0) (4611686018427387904 : UInt64))), (.double (FP.ddiv (FP.l2d p1) (4611686018427387904 : UInt64))), (.double (FP.ddiv (FP.l2d p2) (4611686018427387904 : UInt64))), (.double (FP.ddiv (FP.l2d p3) (4611686018427387904 : UInt64)))] _ (own_P4 p0.toInt p1.toInt p2.toInt p3.toInt) (own_upd (own_upd (own_upd (own_upd (own_upd (own_upd (own_upd W'_30 0 0) 1 0) 2 0) 3 0) 4 0) 5 0) 6 0) (own_upd (own_upd (own_upd (own_upd (own_upd (own_upd (own_upd D'_30 0 0) 1 0) 2 0) 3 0) 4 0) 5 0) 6 0) T183.heap n0 q193 G183_1 G183_2 G183_3 G183_4 G183_5 rfl (own_Lz 6 (own_Lz 5 (own_Lz 4 (own_Lz 3 (own_Lz 2 (own_Lz 1 (own_Lz 0 G30_1 (by decide) rfl rfl) (by decide) rfl rfl) (by decide) rfl rfl) (by decide) rfl rfl) (by decide) rfl rfl) (by decide) rfl rfl) (by decide) rfl rfl) (own_Ps4 (by decide) (fun _ => own_l2p hp0 (by decide)) (fun _ => own_l2p hp1.2 (by decide)) (fun _ => own_l2p hp2.2 (by decide)) (fun _ => own_l2p hp3.2 (by decide)))) rfl (a := b16) G183_0 f0_290 (argsL := [(.int (2 : Int32))]) (rest := []) rfl rfl (lenOf pd_5 rfl) rfl (W := 0) (Nat.le_of_eq rfl) (by decide) (by decide) (by decide) (by decide) ?_
      intro v192 T192 L192 X192 q192
      obtain ⟨rv_192, rfl, Nq192, eq192, G192_0⟩ := q192
      have N192 := Fr.app N183 Nq192
      show Go p e below s _ _ _ T192 (mkF m 293 #[.val (.int x1), .val (.int x2), .val (.int x3), .val (.int x4), .val (.long p0), .second, .val (.long p1), .second, .val (.long p2), .second, .val (.long p3), .second, .val (.int (2 : Int32)), .val (.int (4 : Int32)), .val (.long w1), .second, .val (.long d1), .second, .val (.long w2), .second, .val (.long d2), .second, .val (.ref b2), .val (.ref b7), .val (.long p2), .second, .val (.long ex), .second, .val (.ref b16), .unset, .unset, .unset] [(.double rv_192)])
      refine wdconst0 C X192 f0_293 ?_
      refine wdcmp C X192 f0_294 (v := (cmpValue (FP.dcmp rv_192 FP.dconst0) .l)) rfl ?_
      have hz : own_pm 3 0 0 (4 - 1) (own_upd (own_upd (own_upd (own_upd (own_upd (own_upd (own_upd W'_30 0 0) 1 0) 2 0) 3 0) 4 0) 5 0) 6 0) (own_upd (own_upd (own_upd (own_upd (own_upd (own_upd (own_upd D'_30 0 0) 1 0) 2 0) 3 0) 4 0) 5 0) 6 0) ((own_P4 p0.toInt p1.toInt p2.toInt p3.toInt) 2) 2 = 0 := by simp [own_pm, own_upd]
      refine wif_ne C X192 f0_295 ?_ (fun q => absurd ((own_eq G192_0 (own_c 0 _ 0 (by decide +kernel) (by decide)) _).mpr hz) q)
      intro _
      refine wiconst C X192 f0_298 (1 : Int32) rfl ?_
      refine wgoto C X192 f0_299 ?_
      refine wistore C X192 f0_303 #[.val (.int x1), .val (.int x2), .val (.int x3), .val (.int x4), .val (.long p0), .second, .val (.long p1), .second, .val (.long p2), .second, .val (.long p3), .second, .val (.int (2 : Int32)), .val (.int (4 : Int32)), .val (.long w1), .second, .val (.long d1), .second, .val (.long w2), .second, .val (.long d2), .second, .val (.ref b2), .val (.ref b7), .val (.long p2), .second, .val (.long ex), .second, .val (.ref b16), .val (.int (1 : Int32)), .unset, .unset] rfl ?_
      refine waload C X192 f0_305 rfl rfl ?_
      refine wlload C X192 f0_307 rfl ?_
      refine wl2d C X192 f0_309 ?_
      refine wlload C X192 f0_310 rfl ?_
      refine wl2d C X192 f0_312 ?_
      refine wvirtual C X192 (y := (⟨"com/example/arbor_center/arborcenter/objective/UpperEnvelope", "add", "(DD)V"⟩ : MethodName)) (z := (⟨"com/example/arbor_center/arborcenter/objective/UpperEnvelope", "add", "(DD)V"⟩ : MethodName)) (tw_32 hw) (tw_33 hw) (notFace_of_selects (args := #[]) (mvT C.2.1 (tw_35 hw))) (tw_35 hw) (tw_34 hw) (tw_36 hw) (tw_13 hw) (by decide) (rm6 l Z a0 hw [] b16 (FP.l2d w1) (FP.l2d d1) ph_18 pl_18 k1_18 k2_18 4 [(.double (FP.ddiv (FP.l2d p0) (4611686018427387904 : UInt64))), (.double (FP.ddiv (FP.l2d p1) (4611686018427387904 : UInt64))), (.double (FP.ddiv (FP.l2d p2) (4611686018427387904 : UInt64))), (.double (FP.ddiv (FP.l2d p3) (4611686018427387904 : UInt64)))] _ (own_P4 p0.toInt p1.toInt p2.toInt p3.toInt) (own_upd (own_upd (own_upd (own_upd (own_upd (own_upd (own_upd W'_30 0 0) 1 0) 2 0) 3 0) 4 0) 5 0) 6 0) (own_upd (own_upd (own_upd (own_upd (own_upd (own_upd (own_upd D'_30 0 0) 1 0) 2 0) 3 0) 4 0) 5 0) 6 0) w1.toInt d1.toInt T183.heap n0 q193 G183_1 G183_2 G183_3 G183_4 G183_5 (Nat.le_trans Z0 szG18_2) ne24 G18_3 (own_Lz 6 (own_Lz 5 (own_Lz 4 (own_Lz 3 (own_Lz 2 (own_Lz 1 (own_Lz 0 G30_1 (by decide) rfl rfl) (by decide) rfl rfl) (by decide) rfl rfl) (by decide) rfl rfl) (by decide) rfl rfl) (by decide) rfl rfl) (by decide) rfl rfl) (own_Ps4 (by decide) (fun _ => own_l2p hp0 (by decide)) (fun _ => own_l2p hp1.2 (by decide)) (fun _ => own_l2p hp2.2 (by decide)) (fun _ => own_l2p hp3.2 (by decide))) (hm0 _ (by decide)) (by decide) (by decide) (own_wd hw1 hd1)) eq192 (a := b16) G183_0 f0_313 (argsL := [(.double (FP.l2d w1)), (.double (FP.l2d d1))]) (rest := []) rfl rfl (lenOf pd_4 rfl) rfl (W := 0) (Nat.le_of_eq rfl) (by decide) (by decide) (by decide) (by decide) ?_
      intro v194 T194 L194 X194 q194
      obtain ⟨ls'_194, W'_194, D'_194, rfl, Nq194, K194, G194_0, G194_1, G194_2⟩ := q194
      have q195 := (Nat.le_trans (Nat.le_trans (Nat.le_trans q29 K27.1) K30.1) K183.1)
      have N194 := Fr.app N192 Nq194
      show Go p e below s _ _ _ T194 (mkF m 316 #[.val (.int x1), .val (.int x2), .val (.int x3), .val (.int x4), .val (.long p0), .second, .val (.long p1), .second, .val (.long p2), .second, .val (.long p3), .second, .val (.int (2 : Int32)), .val (.int (4 : Int32)), .val (.long w1), .second, .val (.long d1), .second, .val (.long w2), .second, .val (.long d2), .second, .val (.ref b2), .val (.ref b7), .val (.long p2), .second, .val (.long ex), .second, .val (.ref b16), .val (.int (1 : Int32)), .unset, .unset] [])
      refine waload C X194 f0_316 rfl rfl ?_
      refine wlload C X194 f0_318 rfl ?_
      refine wl2d C X194 f0_320 ?_
      refine wlload C X194 f0_321 rfl ?_
      refine wl2d C X194 f0_323 ?_
      refine wvirtual C X194 (y := (⟨"com/example/arbor_center/arborcenter/objective/UpperEnvelope", "add", "(DD)V"⟩ : MethodName)) (z := (⟨"com/example/arbor_center/arborcenter/objective/UpperEnvelope", "add", "(DD)V"⟩ : MethodName)) (tw_32 hw) (tw_33 hw) (notFace_of_selects (args := #[]) (mvT C.2.1 (tw_35 hw))) (tw_35 hw) (tw_34 hw) (tw_36 hw) (tw_13 hw) (by decide) (rm6 l Z a0 hw [] b16 (FP.l2d w2) (FP.l2d d2) ph_18 pl_18 k1_18 k2_18 4 [(.double (FP.ddiv (FP.l2d p0) (4611686018427387904 : UInt64))), (.double (FP.ddiv (FP.l2d p1) (4611686018427387904 : UInt64))), (.double (FP.ddiv (FP.l2d p2) (4611686018427387904 : UInt64))), (.double (FP.ddiv (FP.l2d p3) (4611686018427387904 : UInt64)))] (ls'_194) (own_P4 p0.toInt p1.toInt p2.toInt p3.toInt) (W'_194) (D'_194) w2.toInt d2.toInt T194.heap n0 (Nat.le_trans q193 K194.1) (G183_1.keep K194 (ninS ne24 nin0)) (G183_2.keep K194 (ninS ne24 nin0)) (G183_3.keep K194 (ninS ne24 nin0)) (G183_4.keep K194 (ninS G18_3 nin0)) G194_0 (Nat.le_trans Z0 szG18_2) ne24 G18_3 G194_1 (own_Ps4 (by decide) (fun _ => own_l2p hp0 (by decide)) (fun _ => own_l2p hp1.2 (by decide)) (fun _ => own_l2p hp2.2 (by decide)) (fun _ => own_l2p hp3.2 (by decide))) (hm0 _ (by decide)) (by decide) (by decide) (own_wd hw2 hd2)) rfl (a := b16) (G183_0.keep K194) f0_324 (argsL := [(.double (FP.l2d w2)), (.double (FP.l2d d2))]) (rest := []) rfl rfl (lenOf pd_4 rfl) rfl (W := 0) (Nat.le_of_eq rfl) (by decide) (by decide) (by decide) (by decide) ?_
      intro v196 T196 L196 X196 q196
      obtain ⟨ls'_196, W'_196, D'_196, rfl, Nq196, K196, G196_0, G196_1, G196_2⟩ := q196
      have N196 := Fr.app N194 Nq196
      show Go p e below s _ _ _ T196 (mkF m 327 #[.val (.int x1), .val (.int x2), .val (.int x3), .val (.int x4), .val (.long p0), .second, .val (.long p1), .second, .val (.long p2), .second, .val (.long p3), .second, .val (.int (2 : Int32)), .val (.int (4 : Int32)), .val (.long w1), .second, .val (.long d1), .second, .val (.long w2), .second, .val (.long d2), .second, .val (.ref b2), .val (.ref b7), .val (.long p2), .second, .val (.long ex), .second, .val (.ref b16), .val (.int (1 : Int32)), .unset, .unset] [])
      refine waload C X196 f0_327 rfl rfl ?_
      refine wiload C X196 f0_329 rfl ?_
      have q198 := ((G183_1.keep K194 (ninS ne24 nin0)).keep K196 (ninS ne24 nin0))
      have q199 := ((G183_2.keep K194 (ninS ne24 nin0)).keep K196 (ninS ne24 nin0))
      have q200 := ((G183_3.keep K194 (ninS ne24 nin0)).keep K196 (ninS ne24 nin0))
      have q201 := ((G183_4.keep K194 (ninS G18_3 nin0)).keep K196 (ninS G18_3 nin0))
      refine wvirtual C X196 (y := (⟨"com/example/arbor_center/arborcenter/objective/UpperEnvelope", "at", "(I)D"⟩ : MethodName)) (z := (⟨"com/example/arbor_center/arborcenter/objective/UpperEnvelope", "at", "(I)D"⟩ : MethodName)) (tw_37 hw) (tw_38 hw) (notFace_of_selects (args := #[]) (mvT C.2.1 (tw_40 hw))) (tw_40 hw) (tw_39 hw) (tw_41 hw) (tw_13 hw) (by decide) (rm7_4_2 l Z a0 hw [] b16 (2 : Int32) ph_18 pl_18 k1_18 k2_18 [(.double (FP.ddiv (FP.l2d p0) (4611686018427387904 : UInt64))), (.double (FP.ddiv (FP.l2d p1) (4611686018427387904 : UInt64))), (.double (FP.ddiv (FP.l2d p2) (4611686018427387904 : UInt64))), (.double (FP.ddiv (FP.l2d p3) (4611686018427387904 : UInt64)))] (ls'_196) (own_P4 p0.toInt p1.toInt p2.toInt p3.toInt) (W'_196) (D'_196) T196.heap n0 (Nat.le_trans (Nat.le_trans q193 K194.1) K196.1) q198 q199 q200 q201 G196_0 rfl G196_1 (own_Ps4 (by decide) (fun _ => own_l2p hp0 (by decide)) (fun _ => own_l2p hp1.2 (by decide)) (fun _ => own_l2p hp2.2 (by decide)) (fun _ => own_l2p hp3.2 (by decide)))) rfl (a := b16) ((G183_0.keep K194).keep K196) f0_331 (argsL := [(.int (2 : Int32))]) (rest := []) rfl rfl (lenOf pd_5 rfl) rfl (W := 0) (Nat.le_of_eq rfl) (by decide) (by decide) (by decide) (by decide) ?_
      intro v197 T197 L197 X197 q197
      obtain ⟨rv_197, rfl, Nq197, eq197, G197_0⟩ := q197
      have N197 := Fr.app N196 Nq197
      show Go p e below s _ _ _ T197 (mkF m 334 #[.val (.int x1), .val (.int x2), .val (.int x3), .val (.int x4), .val (.long p0), .second, .val (.long p1), .second, .val (.long p2), .second, .val (.long p3), .second, .val (.int (2 : Int32)), .val (.int (4 : Int32)), .val (.long w1), .second, .val (.long d1), .second, .val (.long w2), .second, .val (.long d2), .second, .val (.ref b2), .val (.ref b7), .val (.long p2), .second, .val (.long ex), .second, .val (.ref b16), .val (.int (1 : Int32)), .unset, .unset] [(.double rv_197)])
      refine wdstore C X197 f0_334 #[.val (.int x1), .val (.int x2), .val (.int x3), .val (.int x4), .val (.long p0), .second, .val (.long p1), .second, .val (.long p2), .second, .val (.long p3), .second, .val (.int (2 : Int32)), .val (.int (4 : Int32)), .val (.long w1), .second, .val (.long d1), .second, .val (.long w2), .second, .val (.long d2), .second, .val (.ref b2), .val (.ref b7), .val (.long p2), .second, .val (.long ex), .second, .val (.ref b16), .val (.int (1 : Int32)), .val (.double rv_197), .second] rfl ?_
      refine wiload C X197 f0_336 rfl ?_
      refine wif_eq C X197 f0_338 (fun q => absurd q (by decide : ¬ ((1 : Int32) = (0 : Int32)))) ?_
      intro _
      refine wdload C X197 f0_341 rfl ?_
      refine wlload C X197 f0_343 rfl ?_
      refine wl2d C X197 f0_345 ?_
      refine wdcmp C X197 f0_346 (v := (cmpValue (FP.dcmp rv_197 (FP.l2d ex)) .l)) rfl ?_
      refine wif_ne C X197 f0_347 ?_ (fun q => absurd ((own_eq G197_0 hexd _).mpr (own_fin (G194_2 2 (by decide)) (G196_2 2 (by decide)) hz m1.2.1 hex)) q)
      intro _
      refine wiconst C X197 f0_350 (1 : Int32) rfl ?_
      refine wgoto C X197 f0_351 ?_
      refine wiretN C X197 (t := .boolean) (by simp) f0_355 rfl (1 : Int32) (by decide) (by decide) (by decide) ?_
      rw [eq197]
      exact ⟨rfl, N197⟩
    · obtain rfl : p3 = pk := by
        rcases hpk with ⟨q, r⟩ | ⟨q, r⟩ | ⟨q, r⟩ | ⟨q, r⟩ <;> first | exact r.symm | exact absurd q (by decide)
      have q203 := ((G19_1.keep K27 (ninS ne24 nin0)).keep K30 (ninS ne24 nin0))
      have q204 := ((G19_2.keep K27 (ninS ne24 nin0)).keep K30 (ninS ne24 nin0))
      have q205 := ((G19_3.keep K27 (ninS ne24 nin0)).keep K30 (ninS ne24 nin0))
      have q206 := ((G19_4.keep K27 (ninS G18_3 nin0)).keep K30 (ninS G18_3 nin0))
      have ne207 : b7 ≠ b16 := (Nat.ne_of_lt (Nat.lt_of_lt_of_le (Nat.lt_of_lt_of_eq (Nat.lt_of_lt_of_eq (Nat.lt_of_lt_of_eq (Nat.lt_of_lt_of_eq Vp7.lt W9.size.symm) W10.size.symm) W11.size.symm) W12.size.symm) (Nat.le_of_eq g16.symm)))
      have ne208 : b7 ≠ pl_18 := (Nat.ne_of_lt (Nat.lt_of_lt_of_le (Nat.lt_of_lt_of_le (Nat.lt_of_lt_of_eq (Nat.lt_of_lt_of_eq (Nat.lt_of_lt_of_eq (Nat.lt_of_lt_of_eq Vp7.lt W9.size.symm) W10.size.symm) W11.size.symm) W12.size.symm) E16.1) G18_2))
      have ne209 : b7 ≠ ph_18 := (Nat.ne_of_lt (Nat.lt_of_lt_of_le (Nat.lt_of_lt_of_le (Nat.lt_of_lt_of_eq (Nat.lt_of_lt_of_eq (Nat.lt_of_lt_of_eq (Nat.lt_of_lt_of_eq Vp7.lt W9.size.symm) W10.size.symm) W11.size.symm) W12.size.symm) E16.1) G18_1))
      have q210 := (((((V12.ext E16).keep K18 (ninS ne207 nin0)).keep K19 (ninS ne207 (ninS ne209 (ninS ne208 nin0)))).keep K27 (ninS ne208 nin0)).keep K30 (ninS ne208 nin0))
      refine wvirtual C X30 (y := (⟨"com/example/arbor_center/arborcenter/objective/UpperEnvelope", "reset", "([DI)V"⟩ : MethodName)) (z := (⟨"com/example/arbor_center/arborcenter/objective/UpperEnvelope", "reset", "([DI)V"⟩ : MethodName)) (tw_24 hw) (tw_25 hw) (notFace_of_selects (args := #[]) (mvT C.2.1 (tw_27 hw))) (tw_27 hw) (tw_26 hw) (tw_28 hw) (tw_13 hw) (by decide) (rm5_4 l Z a0 hw [] b16 b7 (4 : Int32) ph_18 pl_18 k1_18 k2_18 k7 (4 : Int32) (ls'_30) (FP.ddiv FP.dconst0 (4611686018427387904 : UInt64)) (FP.ddiv (4611686018427387904 : UInt64) (4611686018427387904 : UInt64)) (FP.ddiv (4616189618054758400 : UInt64) (4611686018427387904 : UInt64)) (FP.ddiv (4618441417868443648 : UInt64) (4611686018427387904 : UInt64)) (FP.l2d p0) (FP.l2d p1) (FP.l2d p2) (FP.l2d p3) T30.heap n0 (Nat.le_trans (Nat.le_trans q28 K27.1) K30.1) ((G19_0.keep K27).keep K30) q203 q204 q205 q206 G30_0 q210 (Nat.le_trans Z0 sz16) (Nat.le_trans Z0 szG18_1) (Nat.le_trans Z0 szG18_2) ne23 ne24 G18_3 ne207 ne209 ne208 rfl G30_1.1 hd_0 hd_1 hd_2 hd_3) rfl (a := b16) ((G19_0.keep K27).keep K30) f0_283 (argsL := [(.ref b7), (.int (4 : Int32))]) (rest := []) rfl rfl (lenOf pd_3 rfl) rfl (W := 0) (Nat.le_of_eq rfl) (by decide) (by decide) (by decide) (by decide) ?_
      intro v202 T202 L202 X202 q202
      obtain ⟨rfl, Nq202, K202, G202_0, G202_1, G202_2, G202_3, G202_4, G202_5⟩ := q202
      have N202 := Fr.app N30 Nq202
      show Go p e below s _ _ _ T202 (mkF m 286 #[.val (.int x1), .val (.int x2), .val (.int x3), .val (.int x4), .val (.long p0), .second, .val (.long p1), .second, .val (.long p2), .second, .val (.long p3), .second, .val (.int (3 : Int32)), .val (.int (4 : Int32)), .val (.long w1), .second, .val (.long d1), .second, .val (.long w2), .second, .val (.long d2), .second, .val (.ref b2), .val (.ref b7), .val (.long p3), .second, .val (.long ex), .second, .val (.ref b16), .unset, .unset, .unset] [])
      refine waload C X202 f0_286 rfl rfl ?_
      refine wiload C X202 f0_288 rfl ?_
      have q212 := (Nat.le_trans (Nat.le_trans (Nat.le_trans q28 K27.1) K30.1) K202.1)
      refine wvirtual C X202 (y := (⟨"com/example/arbor_center/arborcenter/objective/UpperEnvelope", "at", "(I)D"⟩ : MethodName)) (z := (⟨"com/example/arbor_center/arborcenter/objective/UpperEnvelope", "at", "(I)D"⟩ : MethodName)) (tw_37 hw) (tw_38 hw) (notFace_of_selects (args := #[]) (mvT C.2.1 (tw_40 hw))) (tw_40 hw) (tw_39 hw) (tw_41 hw) (tw_13 hw) (by decide) (rm7_4_3 l Z a0 hw [] b16 (3 : Int32) ph_18 pl_18 k1_18 k2_18 [(.double (FP.ddiv (FP.l2d p0) (4611686018427387904 : UInt64))), (.double (FP.ddiv (FP.l2d p1) (4611686018427387904 : UInt64))), (.double (FP.ddiv (FP.l2d p2) (4611686018427387904 : UInt64))), (.double (FP.ddiv (FP.l2d p3) (4611686018427387904 : UInt64)))] _ (own_P4 p0.toInt p1.toInt p2.toInt p3.toInt) (own_upd (own_upd (own_upd (own_upd (own_upd (own_upd (own_upd W'_30 0 0) 1 0) 2 0) 3 0) 4 0) 5 0) 6 0) (own_upd (own_upd (own_upd (own_upd (own_upd (own_upd (own_upd D'_30 0 0) 1 0) 2 0) 3 0) 4 0) 5 0) 6 0) T202.heap n0 q212 G202_1 G202_2 G202_3 G202_4 G202_5 rfl (own_Lz 6 (own_Lz 5 (own_Lz 4 (own_Lz 3 (own_Lz 2 (own_Lz 1 (own_Lz 0 G30_1 (by decide) rfl rfl) (by decide) rfl rfl) (by decide) rfl rfl) (by decide) rfl rfl) (by decide) rfl rfl) (by decide) rfl rfl) (by decide) rfl rfl) (own_Ps4 (by decide) (fun _ => own_l2p hp0 (by decide)) (fun _ => own_l2p hp1.2 (by decide)) (fun _ => own_l2p hp2.2 (by decide)) (fun _ => own_l2p hp3.2 (by decide)))) rfl (a := b16) G202_0 f0_290 (argsL := [(.int (3 : Int32))]) (rest := []) rfl rfl (lenOf pd_5 rfl) rfl (W := 0) (Nat.le_of_eq rfl) (by decide) (by decide) (by decide) (by decide) ?_
      intro v211 T211 L211 X211 q211
      obtain ⟨rv_211, rfl, Nq211, eq211, G211_0⟩ := q211
      have N211 := Fr.app N202 Nq211
      show Go p e below s _ _ _ T211 (mkF m 293 #[.val (.int x1), .val (.int x2), .val (.int x3), .val (.int x4), .val (.long p0), .second, .val (.long p1), .second, .val (.long p2), .second, .val (.long p3), .second, .val (.int (3 : Int32)), .val (.int (4 : Int32)), .val (.long w1), .second, .val (.long d1), .second, .val (.long w2), .second, .val (.long d2), .second, .val (.ref b2), .val (.ref b7), .val (.long p3), .second, .val (.long ex), .second, .val (.ref b16), .unset, .unset, .unset] [(.double rv_211)])
      refine wdconst0 C X211 f0_293 ?_
      refine wdcmp C X211 f0_294 (v := (cmpValue (FP.dcmp rv_211 FP.dconst0) .l)) rfl ?_
      have hz : own_pm 3 0 0 (4 - 1) (own_upd (own_upd (own_upd (own_upd (own_upd (own_upd (own_upd W'_30 0 0) 1 0) 2 0) 3 0) 4 0) 5 0) 6 0) (own_upd (own_upd (own_upd (own_upd (own_upd (own_upd (own_upd D'_30 0 0) 1 0) 2 0) 3 0) 4 0) 5 0) 6 0) ((own_P4 p0.toInt p1.toInt p2.toInt p3.toInt) 3) 3 = 0 := by simp [own_pm, own_upd]
      refine wif_ne C X211 f0_295 ?_ (fun q => absurd ((own_eq G211_0 (own_c 0 _ 0 (by decide +kernel) (by decide)) _).mpr hz) q)
      intro _
      refine wiconst C X211 f0_298 (1 : Int32) rfl ?_
      refine wgoto C X211 f0_299 ?_
      refine wistore C X211 f0_303 #[.val (.int x1), .val (.int x2), .val (.int x3), .val (.int x4), .val (.long p0), .second, .val (.long p1), .second, .val (.long p2), .second, .val (.long p3), .second, .val (.int (3 : Int32)), .val (.int (4 : Int32)), .val (.long w1), .second, .val (.long d1), .second, .val (.long w2), .second, .val (.long d2), .second, .val (.ref b2), .val (.ref b7), .val (.long p3), .second, .val (.long ex), .second, .val (.ref b16), .val (.int (1 : Int32)), .unset, .unset] rfl ?_
      refine waload C X211 f0_305 rfl rfl ?_
      refine wlload C X211 f0_307 rfl ?_
      refine wl2d C X211 f0_309 ?_
      refine wlload C X211 f0_310 rfl ?_
      refine wl2d C X211 f0_312 ?_
      refine wvirtual C X211 (y := (⟨"com/example/arbor_center/arborcenter/objective/UpperEnvelope", "add", "(DD)V"⟩ : MethodName)) (z := (⟨"com/example/arbor_center/arborcenter/objective/UpperEnvelope", "add", "(DD)V"⟩ : MethodName)) (tw_32 hw) (tw_33 hw) (notFace_of_selects (args := #[]) (mvT C.2.1 (tw_35 hw))) (tw_35 hw) (tw_34 hw) (tw_36 hw) (tw_13 hw) (by decide) (rm6 l Z a0 hw [] b16 (FP.l2d w1) (FP.l2d d1) ph_18 pl_18 k1_18 k2_18 4 [(.double (FP.ddiv (FP.l2d p0) (4611686018427387904 : UInt64))), (.double (FP.ddiv (FP.l2d p1) (4611686018427387904 : UInt64))), (.double (FP.ddiv (FP.l2d p2) (4611686018427387904 : UInt64))), (.double (FP.ddiv (FP.l2d p3) (4611686018427387904 : UInt64)))] _ (own_P4 p0.toInt p1.toInt p2.toInt p3.toInt) (own_upd (own_upd (own_upd (own_upd (own_upd (own_upd (own_upd W'_30 0 0) 1 0) 2 0) 3 0) 4 0) 5 0) 6 0) (own_upd (own_upd (own_upd (own_upd (own_upd (own_upd (own_upd D'_30 0 0) 1 0) 2 0) 3 0) 4 0) 5 0) 6 0) w1.toInt d1.toInt T202.heap n0 q212 G202_1 G202_2 G202_3 G202_4 G202_5 (Nat.le_trans Z0 szG18_2) ne24 G18_3 (own_Lz 6 (own_Lz 5 (own_Lz 4 (own_Lz 3 (own_Lz 2 (own_Lz 1 (own_Lz 0 G30_1 (by decide) rfl rfl) (by decide) rfl rfl) (by decide) rfl rfl) (by decide) rfl rfl) (by decide) rfl rfl) (by decide) rfl rfl) (by decide) rfl rfl) (own_Ps4 (by decide) (fun _ => own_l2p hp0 (by decide)) (fun _ => own_l2p hp1.2 (by decide)) (fun _ => own_l2p hp2.2 (by decide)) (fun _ => own_l2p hp3.2 (by decide))) (hm0 _ (by decide)) (by decide) (by decide) (own_wd hw1 hd1)) eq211 (a := b16) G202_0 f0_313 (argsL := [(.double (FP.l2d w1)), (.double (FP.l2d d1))]) (rest := []) rfl rfl (lenOf pd_4 rfl) rfl (W := 0) (Nat.le_of_eq rfl) (by decide) (by decide) (by decide) (by decide) ?_
      intro v213 T213 L213 X213 q213
      obtain ⟨ls'_213, W'_213, D'_213, rfl, Nq213, K213, G213_0, G213_1, G213_2⟩ := q213
      have q214 := (Nat.le_trans (Nat.le_trans (Nat.le_trans q29 K27.1) K30.1) K202.1)
      have N213 := Fr.app N211 Nq213
      show Go p e below s _ _ _ T213 (mkF m 316 #[.val (.int x1), .val (.int x2), .val (.int x3), .val (.int x4), .val (.long p0), .second, .val (.long p1), .second, .val (.long p2), .second, .val (.long p3), .second, .val (.int (3 : Int32)), .val (.int (4 : Int32)), .val (.long w1), .second, .val (.long d1), .second, .val (.long w2), .second, .val (.long d2), .second, .val (.ref b2), .val (.ref b7), .val (.long p3), .second, .val (.long ex), .second, .val (.ref b16), .val (.int (1 : Int32)), .unset, .unset] [])
      refine waload C X213 f0_316 rfl rfl ?_
      refine wlload C X213 f0_318 rfl ?_
      refine wl2d C X213 f0_320 ?_
      refine wlload C X213 f0_321 rfl ?_
      refine wl2d C X213 f0_323 ?_
      refine wvirtual C X213 (y := (⟨"com/example/arbor_center/arborcenter/objective/UpperEnvelope", "add", "(DD)V"⟩ : MethodName)) (z := (⟨"com/example/arbor_center/arborcenter/objective/UpperEnvelope", "add", "(DD)V"⟩ : MethodName)) (tw_32 hw) (tw_33 hw) (notFace_of_selects (args := #[]) (mvT C.2.1 (tw_35 hw))) (tw_35 hw) (tw_34 hw) (tw_36 hw) (tw_13 hw) (by decide) (rm6 l Z a0 hw [] b16 (FP.l2d w2) (FP.l2d d2) ph_18 pl_18 k1_18 k2_18 4 [(.double (FP.ddiv (FP.l2d p0) (4611686018427387904 : UInt64))), (.double (FP.ddiv (FP.l2d p1) (4611686018427387904 : UInt64))), (.double (FP.ddiv (FP.l2d p2) (4611686018427387904 : UInt64))), (.double (FP.ddiv (FP.l2d p3) (4611686018427387904 : UInt64)))] (ls'_213) (own_P4 p0.toInt p1.toInt p2.toInt p3.toInt) (W'_213) (D'_213) w2.toInt d2.toInt T213.heap n0 (Nat.le_trans q212 K213.1) (G202_1.keep K213 (ninS ne24 nin0)) (G202_2.keep K213 (ninS ne24 nin0)) (G202_3.keep K213 (ninS ne24 nin0)) (G202_4.keep K213 (ninS G18_3 nin0)) G213_0 (Nat.le_trans Z0 szG18_2) ne24 G18_3 G213_1 (own_Ps4 (by decide) (fun _ => own_l2p hp0 (by decide)) (fun _ => own_l2p hp1.2 (by decide)) (fun _ => own_l2p hp2.2 (by decide)) (fun _ => own_l2p hp3.2 (by decide))) (hm0 _ (by decide)) (by decide) (by decide) (own_wd hw2 hd2)) rfl (a := b16) (G202_0.keep K213) f0_324 (argsL := [(.double (FP.l2d w2)), (.double (FP.l2d d2))]) (rest := []) rfl rfl (lenOf pd_4 rfl) rfl (W := 0) (Nat.le_of_eq rfl) (by decide) (by decide) (by decide) (by decide) ?_
      intro v215 T215 L215 X215 q215
      obtain ⟨ls'_215, W'_215, D'_215, rfl, Nq215, K215, G215_0, G215_1, G215_2⟩ := q215
      have N215 := Fr.app N213 Nq215
      show Go p e below s _ _ _ T215 (mkF m 327 #[.val (.int x1), .val (.int x2), .val (.int x3), .val (.int x4), .val (.long p0), .second, .val (.long p1), .second, .val (.long p2), .second, .val (.long p3), .second, .val (.int (3 : Int32)), .val (.int (4 : Int32)), .val (.long w1), .second, .val (.long d1), .second, .val (.long w2), .second, .val (.long d2), .second, .val (.ref b2), .val (.ref b7), .val (.long p3), .second, .val (.long ex), .second, .val (.ref b16), .val (.int (1 : Int32)), .unset, .unset] [])
      refine waload C X215 f0_327 rfl rfl ?_
      refine wiload C X215 f0_329 rfl ?_
      have q217 := ((G202_1.keep K213 (ninS ne24 nin0)).keep K215 (ninS ne24 nin0))
      have q218 := ((G202_2.keep K213 (ninS ne24 nin0)).keep K215 (ninS ne24 nin0))
      have q219 := ((G202_3.keep K213 (ninS ne24 nin0)).keep K215 (ninS ne24 nin0))
      have q220 := ((G202_4.keep K213 (ninS G18_3 nin0)).keep K215 (ninS G18_3 nin0))
      refine wvirtual C X215 (y := (⟨"com/example/arbor_center/arborcenter/objective/UpperEnvelope", "at", "(I)D"⟩ : MethodName)) (z := (⟨"com/example/arbor_center/arborcenter/objective/UpperEnvelope", "at", "(I)D"⟩ : MethodName)) (tw_37 hw) (tw_38 hw) (notFace_of_selects (args := #[]) (mvT C.2.1 (tw_40 hw))) (tw_40 hw) (tw_39 hw) (tw_41 hw) (tw_13 hw) (by decide) (rm7_4_3 l Z a0 hw [] b16 (3 : Int32) ph_18 pl_18 k1_18 k2_18 [(.double (FP.ddiv (FP.l2d p0) (4611686018427387904 : UInt64))), (.double (FP.ddiv (FP.l2d p1) (4611686018427387904 : UInt64))), (.double (FP.ddiv (FP.l2d p2) (4611686018427387904 : UInt64))), (.double (FP.ddiv (FP.l2d p3) (4611686018427387904 : UInt64)))] (ls'_215) (own_P4 p0.toInt p1.toInt p2.toInt p3.toInt) (W'_215) (D'_215) T215.heap n0 (Nat.le_trans (Nat.le_trans q212 K213.1) K215.1) q217 q218 q219 q220 G215_0 rfl G215_1 (own_Ps4 (by decide) (fun _ => own_l2p hp0 (by decide)) (fun _ => own_l2p hp1.2 (by decide)) (fun _ => own_l2p hp2.2 (by decide)) (fun _ => own_l2p hp3.2 (by decide)))) rfl (a := b16) ((G202_0.keep K213).keep K215) f0_331 (argsL := [(.int (3 : Int32))]) (rest := []) rfl rfl (lenOf pd_5 rfl) rfl (W := 0) (Nat.le_of_eq rfl) (by decide) (by decide) (by decide) (by decide) ?_
      intro v216 T216 L216 X216 q216
      obtain ⟨rv_216, rfl, Nq216, eq216, G216_0⟩ := q216
      have N216 := Fr.app N215 Nq216
      show Go p e below s _ _ _ T216 (mkF m 334 #[.val (.int x1), .val (.int x2), .val (.int x3), .val (.int x4), .val (.long p0), .second, .val (.long p1), .second, .val (.long p2), .second, .val (.long p3), .second, .val (.int (3 : Int32)), .val (.int (4 : Int32)), .val (.long w1), .second, .val (.long d1), .second, .val (.long w2), .second, .val (.long d2), .second, .val (.ref b2), .val (.ref b7), .val (.long p3), .second, .val (.long ex), .second, .val (.ref b16), .val (.int (1 : Int32)), .unset, .unset] [(.double rv_216)])
      refine wdstore C X216 f0_334 #[.val (.int x1), .val (.int x2), .val (.int x3), .val (.int x4), .val (.long p0), .second, .val (.long p1), .second, .val (.long p2), .second, .val (.long p3), .second, .val (.int (3 : Int32)), .val (.int (4 : Int32)), .val (.long w1), .second, .val (.long d1), .second, .val (.long w2), .second, .val (.long d2), .second, .val (.ref b2), .val (.ref b7), .val (.long p3), .second, .val (.long ex), .second, .val (.ref b16), .val (.int (1 : Int32)), .val (.double rv_216), .second] rfl ?_
      refine wiload C X216 f0_336 rfl ?_
      refine wif_eq C X216 f0_338 (fun q => absurd q (by decide : ¬ ((1 : Int32) = (0 : Int32)))) ?_
      intro _
      refine wdload C X216 f0_341 rfl ?_
      refine wlload C X216 f0_343 rfl ?_
      refine wl2d C X216 f0_345 ?_
      refine wdcmp C X216 f0_346 (v := (cmpValue (FP.dcmp rv_216 (FP.l2d ex)) .l)) rfl ?_
      refine wif_ne C X216 f0_347 ?_ (fun q => absurd ((own_eq G216_0 hexd _).mpr (own_fin (G213_2 3 (by decide)) (G215_2 3 (by decide)) hz m1.2.1 hex)) q)
      intro _
      refine wiconst C X216 f0_350 (1 : Int32) rfl ?_
      refine wgoto C X216 f0_351 ?_
      refine wiretN C X216 (t := .boolean) (by simp) f0_355 rfl (1 : Int32) (by decide) (by decide) (by decide) ?_
      rw [eq216]
      exact ⟨rfl, N216⟩
  refine wif_ne C X12 f0_186 (fun hc186 => ?_) (fun hc186 => ?_)
  · refine wlload C X12 f0_189 rfl ?_
    refine wgoto C X12 f0_191 ?_
    exact J13 p0 (Or.inl ⟨hc186, rfl⟩)
  · refine wiload C X12 f0_194 rfl ?_
    refine wiconst C X12 f0_196 (1 : Int32) rfl ?_
    refine wicmp_ne C X12 f0_197 (fun hc197 => ?_) (fun hc197 => ?_)
    · refine wlload C X12 f0_200 rfl ?_
      refine wgoto C X12 f0_202 ?_
      exact J13 p1 (Or.inr (Or.inl ⟨hc197, rfl⟩))
    · refine wiload C X12 f0_205 rfl ?_
      refine wiconst C X12 f0_207 (2 : Int32) rfl ?_
      refine wicmp_ne C X12 f0_208 (fun hc208 => ?_) (fun hc208 => ?_)
      · refine wlload C X12 f0_211 rfl ?_
        refine wgoto C X12 f0_213 ?_
        exact J13 p2 (Or.inr (Or.inr (Or.inl ⟨hc208, rfl⟩)))
      · refine wlload C X12 f0_216 rfl ?_
        exact J13 p3 (Or.inr (Or.inr (Or.inr ⟨own_k3 hkk hc186 hc197 hc208, rfl⟩)))
set_option maxRecDepth 65536 in
set_option maxHeartbeats 40000000 in
theorem comes_1 {Post : Tables → Env → Array Value → State → Outcome → State → Prop} (hpost : ∀ tb e args s v u, (limb_1_1.after args s (.returned v) u = true ∧ limb_1_2.after args s (.returned v) u = true ∧ True) → FrameEnd s (.returned v) u (Jvm.fieldLocs frame_1_writes args s ++ Jvm.arrayLocs frame_1_arrays args s ++ Jvm.staticLocs frame_1_statics s) 24 128 → Post tb e args s (.returned v) u) :
    ArmFor flags0 classFile x code maxLocals ret World_1 tables_1 room_1 Calls_1 rest_1 Pre_1 Post := by
  intro l hfl _ _ p e ha hc hk s m args below hf hA hF happ hP
  obtain ⟨hcalls, hrest, hpre⟩ := hP
  obtain ⟨-, -, -, hnamed, -, -, -, hat⟩ := (Spec.applies_iff hf).mp happ
  obtain ⟨hg, hn⟩ := and_e (Cond.before_iff.mp (show (Jvm.Cond.and given_1 narrow_1).before args s = true from hpre))
  obtain ⟨hg0, hr0⟩ := and_e hg
  obtain ⟨hg1, hr1⟩ := and_e hr0
  obtain ⟨hg2, hr2⟩ := and_e hr1
  obtain ⟨hg3, hr3⟩ := and_e hr2
  obtain ⟨w0, w1, w2, w3, rfl⟩ : ∃ w0 w1 w2 w3 : Value, args = #[w0, w1, w2, w3] := by
    have hs : args.size = 4 := by simpa [Cond.value, given_1] using hg0
    obtain ⟨L⟩ := args
    match L, hs with
    | [w0, w1, w2, w3], _ => exact ⟨w0, w1, w2, w3, rfl⟩
  have hw := fun d (hd : d ∈ tables_1) => atoms_spec (ws := Jvm.Cond.code x code maxLocals ret :: tables_1) hat d (List.mem_cons_of_mem _ hd)
  have hfit : Fit s := fun {y c} hc i hi => by
    obtain ⟨ha, rfl⟩ := Array.getElem?_eq_some_iff.mp hc
    have q := List.all_eq_true.mp ((Array.all_eq_true_iff_forall_mem.mp hF) _ (Array.getElem_mem ha)) i (List.mem_range.mpr hi)
    simpa [Array.getElem?_eq_getElem hi] using q
  obtain ⟨i0, ei0⟩ := is_v hg1
  obtain rfl : w0 = (.int i0) := Option.some.inj ei0
  obtain ⟨i1, ei1⟩ := is_v hg2
  obtain rfl : w1 = (.int i1) := Option.some.inj ei1
  obtain ⟨i2, ei2⟩ := is_v hg3
  obtain rfl : w2 = (.int i2) := Option.some.inj ei2
  obtain ⟨i3, ei3⟩ := is_v hr3
  obtain rfl : w3 = (.int i3) := Option.some.inj ei3
  obtain ⟨n, o, h1, h2, h3, _, L, rfl, ⟨rfl, N⟩, hq⟩ := rm0 l s _ hw tables_1 i0 i1 i2 i3 s.heap s.heap.size (Nat.le_refl _) p e ha hc hk s m _ below hf ((Spec.applies_iff_loose hf).mp happ).1 ⟨rfl, State.Warmed39.refl s, rfl⟩ trivial
  refine ⟨n, _, h1, h2, h3, hpost _ _ _ _ _ _ ⟨Cond.after_iff.mpr rfl, Cond.after_iff.mpr (eq_i res_at (Term.int_eval (1)) rfl), trivial⟩ ⟨hq.1, hq.2.1, (hq.2.2.sift fun y hy => Or.inr (N y hy)).mono (by decide) (by decide)⟩⟩
theorem main_1_1 : Claimed_1_1 := comes_1 fun _ _ _ _ _ _ h hF => ⟨h.1, hF⟩
theorem main_1_2 : Claimed_1_2 := comes_1 fun _ _ _ _ _ _ h hF => ⟨h.2.1, hF⟩
end Jvm.Pilot.@@N@@
-- WITNESS
namespace Jvm.Pilot.@@N@@
open Jvm Jvm.ClassFile Sem Op Lib Jvm.Free Jvm.Stand Jvm.Pilot.@@N@@.Jvm.D
/-! MADE BY PROGRAM (witnessworld.py) out of the Statement's table words and the real class files: 12 classes; the members and pool entries that the words name. The judged class is class 1, her method 1. -/
namespace start1
open Jvm.ClassFile
def u (s : String) : CpInfo := .utf8 (stringToUtf16 s)
/-- a pool by its gaps: so many unusable entries, then the entry; so many at the end -/
def gap : Nat → List CpInfo → List CpInfo
  | 0, r => r
  | n + 1, r => .unusable :: gap n r
def poolList (es : List (Nat × CpInfo)) (last : Nat) : List CpInfo := es.foldr (fun e r => gap e.1 (e.2 :: r)) (gap last [])
def pool (es : List (Nat × CpInfo)) (last : Nat) : Array CpInfo := ⟨poolList es last⟩
def fileOf (pool : Array CpInfo) (this : Nat) (attrs : Array Attribute := #[]) (ms : Array MethodInfo := #[]) (fl : Nat := 33) (sup : Nat := 0) (ifs : Array Nat := #[]) (fds : Array FieldInfo := #[]) : ClassFile where
  minorVersion := 0
  majorVersion := 65
  constantPool := pool
  accessFlags := fl
  thisClass := this
  superClass := sup
  interfaces := ifs
  fields := fds
  methods := ms
  attributes := attrs
def plain (name : String) (sup : Option ClassId) : Class where
  name := name
  kind := .ordinary
  loader := none
  accessFlags := 33
  super := sup
  interfaces := #[]
  cf := none
  fields := #[]
  methods := #[]
  instanceTypes := #[]
  staticTypes := #[]
  resolved := #[]
  callSites := []
  init := .initialized
  statics := none
  mirror := none

def pool0 : Array CpInfo := pool [(5, u "<init>"), (0, u "()V"), (1, .class_ 10), (1, u "java/lang/Object")] 113

def k0c0 : Code := { maxStack := 0, maxLocals := 1, code := object_method_1_code, exceptionTable := #[], attributes := #[] }
def k0m0 : Method := { name := "<init>", desc := "()V", sig := { parameters := [], returnType := none }, accessFlags := 1, code := some k0c0 }
/-- java/lang/Object -/
def k0 : Class := { plain "java/lang/Object" none with
  accessFlags := 33
  interfaces := #[]
  cf := some (fileOf pool0 8 #[] #[{ accessFlags := 1, nameIndex := 5, descriptorIndex := 6, attributes := #[] }] 33 0 #[] #[])
  fields := #[]
  methods := #[k0m0]
  instanceTypes := #[]
  staticTypes := #[]
  resolved := Array.replicate 124 none
  statics := none }

def pool1 : Array CpInfo := pool [(2, .class_ 4), (1, u "java/lang/Object"), (0, u "<init>"), (0, u "()V"), (0, .methodref 8 9), (0, .class_ 10), (0, .nameAndType 11 12), (0, u "java/lang/Math"), (0, u "min"), (0, u "(II)I"), (0, .double 4611686018427387904), (1, .double 4616189618054758400), (1, .double 4618441417868443648), (1, .methodref 8 20), (0, .nameAndType 21 22), (0, u "max"), (0, u "(JJ)J"), (0, .class_ 24), (0, u "com/example/arbor_center/arborcenter/objective/UpperEnvelope"), (0, .methodref 23 26), (0, .nameAndType 5 27), (0, u "(I)V"), (0, .methodref 23 29), (0, .nameAndType 30 31), (0, u "reset"), (0, u "([DI)V"), (0, .methodref 23 33), (0, .nameAndType 34 35), (0, u "add"), (0, u "(DD)V"), (0, .methodref 23 37), (0, .nameAndType 38 39), (0, u "at"), (0, u "(I)D"), (0, .class_ 41), (0, u "com/example/arbor_center/arborcenter/objective/UpperEnvelopeResetPinLaw"), (2, u "law"), (0, u "(IIII)Z")] 5

def k1m0 : Method := { name := "<init>", desc := "()V", sig := { parameters := [], returnType := none }, accessFlags := 1, code := none }
def k1c1 : Code := { maxStack := 8, maxLocals := 32, code := code, exceptionTable := #[], attributes := #[] }
def k1m1 : Method := { name := "law", desc := "(IIII)Z", sig := { parameters := [.int, .int, .int, .int], returnType := some .boolean }, accessFlags := 9, code := some k1c1 }
/-- com/example/arbor_center/arborcenter/objective/UpperEnvelopeResetPinLaw -/
def k1 : Class := { plain "com/example/arbor_center/arborcenter/objective/UpperEnvelopeResetPinLaw" (some 0) with
  accessFlags := 49
  interfaces := #[]
  cf := some (fileOf pool1 40 #[] #[{ accessFlags := 1, nameIndex := 5, descriptorIndex := 6, attributes := #[] }, { accessFlags := 9, nameIndex := 44, descriptorIndex := 45, attributes := #[] }] 49 2 #[] #[])
  fields := #[]
  methods := #[k1m0, k1m1]
  instanceTypes := #[]
  staticTypes := #[]
  resolved := Array.replicate 51 none
  statics := none }

def pool2 : Array CpInfo := pool [(1, .class_ 2), (0, u "java/lang/Math"), (1, .class_ 6), (1, u "java/lang/Object"), (0, u "<init>"), (0, u "()V"), (43, u "(DD)D"), (45, .class_ 100), (1, u "java/lang/Math$RandomNumberGeneratorHolder"), (20, u "(JJ)J"), (50, u "negativeZeroFloatBits"), (0, u "J"), (2, u "negativeZeroDoubleBits"), (21, u "max"), (2, u "min"), (43, u "$assertionsDisabled"), (0, u "Z"), (88, u "(II)I"), (2, u "twoToTheDoubleScaleDown"), (0, u "D"), (4, u "twoToTheDoubleScaleUp"), (9, u "E"), (3, u "PI"), (2, u "TAU"), (2, u "DEGREES_TO_RADIANS"), (0, u "RADIANS_TO_DEGREES")] 94

def k2m0 : Method := { name := "<init>", desc := "()V", sig := { parameters := [], returnType := none }, accessFlags := 2, code := none }
def k2c1 : Code := { maxStack := 4, maxLocals := 4, code := jdk_29_method_66_code, exceptionTable := #[], attributes := #[] }
def k2m1 : Method := { name := "max", desc := "(JJ)J", sig := { parameters := [.long, .long], returnType := some .long }, accessFlags := 9, code := some k2c1 }
def k2c2 : Code := { maxStack := 4, maxLocals := 4, code := jdk_29_method_68_code, exceptionTable := #[], attributes := #[] }
def k2m2 : Method := { name := "max", desc := "(DD)D", sig := { parameters := [.double, .double], returnType := some .double }, accessFlags := 9, code := some k2c2 }
def k2c3 : Code := { maxStack := 2, maxLocals := 2, code := jdk_29_method_69_code, exceptionTable := #[], attributes := #[] }
def k2m3 : Method := { name := "min", desc := "(II)I", sig := { parameters := [.int, .int], returnType := some .int }, accessFlags := 9, code := some k2c3 }
/-- java/lang/Math -/
def k2 : Class := { plain "java/lang/Math" (some 0) with
  accessFlags := 49
  interfaces := #[]
  cf := some (fileOf pool2 1 #[.nestMembers #[98]] #[{ accessFlags := 2, nameIndex := 7, descriptorIndex := 8, attributes := #[] }, { accessFlags := 9, nameIndex := 198, descriptorIndex := 121, attributes := #[] }, { accessFlags := 9, nameIndex := 198, descriptorIndex := 52, attributes := #[] }, { accessFlags := 9, nameIndex := 201, descriptorIndex := 335, attributes := #[] }] 49 4 #[] #[{ accessFlags := 25, nameIndex := 354, descriptorIndex := 339, attributes := #[] }, { accessFlags := 25, nameIndex := 358, descriptorIndex := 339, attributes := #[] }, { accessFlags := 25, nameIndex := 361, descriptorIndex := 339, attributes := #[] }, { accessFlags := 26, nameIndex := 364, descriptorIndex := 339, attributes := #[] }, { accessFlags := 26, nameIndex := 365, descriptorIndex := 339, attributes := #[] }, { accessFlags := 26, nameIndex := 172, descriptorIndex := 173, attributes := #[] }, { accessFlags := 26, nameIndex := 176, descriptorIndex := 173, attributes := #[] }, { accessFlags := 8, nameIndex := 344, descriptorIndex := 339, attributes := #[] }, { accessFlags := 8, nameIndex := 338, descriptorIndex := 339, attributes := #[] }, { accessFlags := 4120, nameIndex := 245, descriptorIndex := 246, attributes := #[] }])
  fields := #[{ name := "E", type := .double, accessFlags := 25, slot := 0, constantValue := 0 }, { name := "PI", type := .double, accessFlags := 25, slot := 1, constantValue := 0 }, { name := "TAU", type := .double, accessFlags := 25, slot := 2, constantValue := 0 }, { name := "DEGREES_TO_RADIANS", type := .double, accessFlags := 26, slot := 3, constantValue := 0 }, { name := "RADIANS_TO_DEGREES", type := .double, accessFlags := 26, slot := 4, constantValue := 0 }, { name := "negativeZeroFloatBits", type := .long, accessFlags := 26, slot := 5, constantValue := 0 }, { name := "negativeZeroDoubleBits", type := .long, accessFlags := 26, slot := 6, constantValue := 0 }, { name := "twoToTheDoubleScaleUp", type := .double, accessFlags := 8, slot := 7, constantValue := 0 }, { name := "twoToTheDoubleScaleDown", type := .double, accessFlags := 8, slot := 8, constantValue := 0 }, { name := "$assertionsDisabled", type := .boolean, accessFlags := 4120, slot := 9, constantValue := 0 }]
  methods := #[k2m0, k2m1, k2m2, k2m3]
  instanceTypes := #[]
  staticTypes := #[.double, .double, .double, .double, .double, .long, .long, .double, .double, .boolean]
  resolved := Array.replicate 460 none
  statics := none }

def pool3 : Array CpInfo := pool [(1, .methodref 2 3), (0, .class_ 4), (0, .nameAndType 5 6), (0, u "java/lang/Object"), (0, u "<init>"), (0, u "()V"), (0, .fieldref 8 9), (0, .class_ 10), (0, .nameAndType 11 12), (0, u "com/example/arbor_center/arborcenter/objective/UpperEnvelope"), (0, u "halfPoints"), (0, u "[D"), (0, .fieldref 8 14), (0, .nameAndType 15 12), (0, u "lines"), (0, .fieldref 8 17), (0, .nameAndType 18 19), (0, u "count"), (0, u "I"), (0, .double 4611686018427387904), (1, .methodref 23 24), (0, .class_ 25), (0, .nameAndType 26 27), (0, u "java/lang/Math"), (0, u "max"), (0, u "(DD)D"), (0, u "(I)V"), (2, u "reset"), (0, u "([DI)V"), (1, u "add"), (0, u "(DD)V"), (0, u "at"), (0, u "(I)D")] 2

def k3c0 : Code := { maxStack := 4, maxLocals := 2, code := prog_12_method_1_code, exceptionTable := #[], attributes := #[] }
def k3m0 : Method := { name := "<init>", desc := "(I)V", sig := { parameters := [.int], returnType := none }, accessFlags := 0, code := some k3c0 }
def k3c1 : Code := { maxStack := 6, maxLocals := 4, code := prog_12_method_2_code, exceptionTable := #[], attributes := #[] }
def k3m1 : Method := { name := "reset", desc := "([DI)V", sig := { parameters := [(.array .double), .int], returnType := none }, accessFlags := 0, code := some k3c1 }
def k3c2 : Code := { maxStack := 8, maxLocals := 18, code := prog_12_method_3_code, exceptionTable := #[], attributes := #[] }
def k3m2 : Method := { name := "add", desc := "(DD)V", sig := { parameters := [.double, .double], returnType := none }, accessFlags := 0, code := some k3c2 }
def k3c3 : Code := { maxStack := 9, maxLocals := 10, code := prog_12_method_4_code, exceptionTable := #[], attributes := #[] }
def k3m3 : Method := { name := "at", desc := "(I)D", sig := { parameters := [.int], returnType := some .double }, accessFlags := 0, code := some k3c3 }
/-- com/example/arbor_center/arborcenter/objective/UpperEnvelope -/
def k3 : Class := { plain "com/example/arbor_center/arborcenter/objective/UpperEnvelope" (some 0) with
  accessFlags := 48
  interfaces := #[]
  cf := some (fileOf pool3 8 #[] #[{ accessFlags := 0, nameIndex := 5, descriptorIndex := 28, attributes := #[] }, { accessFlags := 0, nameIndex := 31, descriptorIndex := 32, attributes := #[] }, { accessFlags := 0, nameIndex := 34, descriptorIndex := 35, attributes := #[] }, { accessFlags := 0, nameIndex := 36, descriptorIndex := 37, attributes := #[] }] 48 2 #[] #[{ accessFlags := 18, nameIndex := 11, descriptorIndex := 12, attributes := #[] }, { accessFlags := 2, nameIndex := 18, descriptorIndex := 19, attributes := #[] }, { accessFlags := 18, nameIndex := 15, descriptorIndex := 12, attributes := #[] }])
  fields := #[{ name := "halfPoints", type := (.array .double), accessFlags := 18, slot := 0, constantValue := 0 }, { name := "count", type := .int, accessFlags := 2, slot := 1, constantValue := 0 }, { name := "lines", type := (.array .double), accessFlags := 18, slot := 2, constantValue := 0 }]
  methods := #[k3m0, k3m1, k3m2, k3m3]
  instanceTypes := #[(.array .double), .int, (.array .double)]
  staticTypes := #[]
  resolved := Array.replicate 40 none
  statics := none }

def pool4 : Array CpInfo := pool [(1, u "java/lang/Cloneable"), (0, .class_ 1), (0, u "java/lang/Object"), (0, .class_ 3)] 3

/-- java/lang/Cloneable -/
def k4 : Class := { plain "java/lang/Cloneable" (some 0) with
  accessFlags := 1537
  interfaces := #[]
  cf := some (fileOf pool4 2 #[] #[] 1537 4 #[] #[])
  fields := #[]
  methods := #[]
  instanceTypes := #[]
  staticTypes := #[]
  resolved := Array.replicate 8 none
  statics := none }

def pool5 : Array CpInfo := pool [(1, u "java/io/Serializable"), (0, .class_ 1), (0, u "java/lang/Object"), (0, .class_ 3)] 3

/-- java/io/Serializable -/
def k5 : Class := { plain "java/io/Serializable" (some 0) with
  accessFlags := 1537
  interfaces := #[]
  cf := some (fileOf pool5 2 #[] #[] 1537 4 #[] #[])
  fields := #[]
  methods := #[]
  instanceTypes := #[]
  staticTypes := #[]
  resolved := Array.replicate 8 none
  statics := none }

/-- the primitive byte -/
def k6 : Class := { plain "byte" none with kind := .primitive 'B', accessFlags := 0x411 }
/-- [B -/
def k7 : Class := { plain "[B" (some 0) with kind := .array 6 .byte, interfaces := #[4, 5], accessFlags := 1041 }

/-- the primitive double -/
def k8 : Class := { plain "double" none with kind := .primitive 'D', accessFlags := 0x411 }
/-- [D -/
def k9 : Class := { plain "[D" (some 0) with kind := .array 8 .double, interfaces := #[4, 5], accessFlags := 1041 }

/-- the primitive int -/
def k10 : Class := { plain "int" none with kind := .primitive 'I', accessFlags := 0x411 }
/-- [I -/
def k11 : Class := { plain "[I" (some 0) with kind := .array 10 .int, interfaces := #[4, 5], accessFlags := 1041 }

def heap : Heap := #[]
def classes : Array Class := #[k0, k1, k2, k3, k4, k5, k6, k7, k8, k9, k10, k11]
def interned : List (Array UInt16 × Addr) := []
def slotsUsed : Nat := 0
def theMethod : MethodId := ⟨1, 1⟩
def args0 : Array Value := #[.int 5, .int 5, .int 5, .int 5]
def aboutOver (below : List Frame) : State where
  vm := { classes := classes, interned := interned.toArray }
  heap := heap
  slotsUsed := slotsUsed
  threads := #[{ frames := .invoking theMethod args0 :: below }]
def below0 : List Frame := [.native { method := ⟨0, 0⟩, args := #[] }]
def about1 : State := aboutOver below0
def p0 : Program := .bare "" "" ""
def e0 : Env := launch0.env 0 0 0
theorem w_frames : about1.frames = Frame.invoking theMethod args0 :: below0 := rfl
set_option maxRecDepth 65536 in
theorem w_args : argsFit about1.vm theMethod args0 = true := by decide +kernel
set_option maxRecDepth 65536 in
theorem w_heap : heapFits about1 = true := by decide +kernel
set_option maxRecDepth 65536 in
theorem w_runnable : about1.curStatus? = some .runnable := by decide +kernel
set_option maxRecDepth 65536 in
theorem w_alone : about1.alone = true := by decide +kernel
set_option maxRecDepth 65536 in
theorem w_named : about1.methodNamed? x = some theMethod := by decide +kernel
set_option maxRecDepth 65536 in
theorem w_hears : about1.hears theMethod below0 = true := by decide +kernel
set_option maxRecDepth 65536 in
theorem w_ripe : about1.ripe theMethod args0 below0 = true := by decide +kernel
theorem w_running : about1.status = .running := rfl
set_option maxRecDepth 65536 in
theorem w_room : about1.hasRoom e0.platform room_1 = true :=
  launch0.hasRoom_least _ room_1 (by decide +kernel) (by decide +kernel) (by decide +kernel) (by decide +kernel) (by decide +kernel) (by decide +kernel)
theorem allAtoms_all (ts : List Jvm.Cond) (a : Array Jvm.Value) (st : Jvm.State) : (allAtoms ts).before a st = ts.all (fun c => c.before a st) := by
  induction ts with
  | nil => rfl
  | cons c t ih =>
    show (Jvm.Cond.and c (allAtoms t)).before a st = _
    rw [Jvm.Cond.before_and, ih, List.all_cons]
def words1 : List Jvm.Cond := Jvm.Cond.code x code maxLocals ret :: tables_1
/-- a 'code' word, met by the world's own term for the bytes: nothing is compared byte by byte -/
theorem code_word {y : MethodName} {bytes : ByteArray} {mx : Nat} {rt : Option FieldType} {a : Array Value} {s : State} {m : MethodId} {meth : Method} {c : Code} (h1 : s.methodNamed? y = some m) (h2 : s.vm.method? m = some meth) (h3 : meth.code = some c) (h4 : c.code = bytes)
    (h5 : (c.maxLocals == mx && c.exceptionTable.isEmpty && decide (c.maxStack ≤ mostOperands) && decide (meth.sig.returnType = rt) && !meth.locks && decide (parseMethodDescriptor y.desc = some meth.sig)) = true) : (Jvm.Cond.code y bytes mx rt).before a s = true := by
  simp only [Bool.and_eq_true, beq_iff_eq, Bool.not_eq_true', decide_eq_true_eq] at h5
  obtain ⟨⟨⟨⟨⟨g1, g2⟩, g3⟩, g4⟩, g5⟩, g6⟩ := h5
  simp [Cond.before, Cond.holds, Cond.value, h1, h2, h3, h4, g1, g2, g3, g4, g5, g6]
def isCode : Jvm.Cond → Bool
  | .code _ _ _ _ => true
  | _ => false
theorem all_split {L : List Jvm.Cond} {P : Jvm.Cond → Bool} (h1 : L.all (fun c => isCode c || P c) = true) (h2 : ∀ c ∈ L.filter isCode, P c = true) : L.all P = true := by
  refine List.all_eq_true.mpr fun c hc => ?_
  have h := List.all_eq_true.mp h1 c hc
  rcases Bool.eq_false_or_eq_true (isCode c) with hi | hi
  · exact h2 c (List.mem_filter.mpr ⟨hc, hi⟩)
  · simpa [hi] using h
set_option maxRecDepth 65536 in
theorem w_c0 : (Jvm.Cond.code x code maxLocals ret).before args0 about1 = true := code_word (m := ⟨1, 1⟩) (meth := k1m1) (c := k1c1) (by decide +kernel) rfl rfl rfl (by decide +kernel)
set_option maxRecDepth 65536 in
theorem w_c1 : (Jvm.Cond.code ({ cls := "java/lang/Math", name := "min", desc := "(II)I" } : Jvm.MethodName) jdk_29_method_69_code (2 : Nat) (Option.some Jvm.ClassFile.FieldType.int)).before args0 about1 = true := code_word (m := ⟨2, 3⟩) (meth := k2m3) (c := k2c3) (by decide +kernel) rfl rfl rfl (by decide +kernel)
set_option maxRecDepth 65536 in
theorem w_c2 : (Jvm.Cond.code ({ cls := "java/lang/Math", name := "max", desc := "(JJ)J" } : Jvm.MethodName) jdk_29_method_66_code (4 : Nat) (Option.some Jvm.ClassFile.FieldType.long)).before args0 about1 = true := code_word (m := ⟨2, 1⟩) (meth := k2m1) (c := k2c1) (by decide +kernel) rfl rfl rfl (by decide +kernel)
set_option maxRecDepth 65536 in
theorem w_c3 : (Jvm.Cond.code ({ cls := "com/example/arbor_center/arborcenter/objective/UpperEnvelope", name := "<init>", desc := "(I)V" } : Jvm.MethodName) prog_12_method_1_code (2 : Nat) (Option.none : Option Jvm.ClassFile.FieldType)).before args0 about1 = true := code_word (m := ⟨3, 0⟩) (meth := k3m0) (c := k3c0) (by decide +kernel) rfl rfl rfl (by decide +kernel)
set_option maxRecDepth 65536 in
theorem w_c4 : (Jvm.Cond.code ({ cls := "java/lang/Object", name := "<init>", desc := "()V" } : Jvm.MethodName) object_method_1_code (1 : Nat) (Option.none : Option Jvm.ClassFile.FieldType)).before args0 about1 = true := code_word (m := ⟨0, 0⟩) (meth := k0m0) (c := k0c0) (by decide +kernel) rfl rfl rfl (by decide +kernel)
set_option maxRecDepth 65536 in
theorem w_c5 : (Jvm.Cond.code ({ cls := "com/example/arbor_center/arborcenter/objective/UpperEnvelope", name := "reset", desc := "([DI)V" } : Jvm.MethodName) prog_12_method_2_code (4 : Nat) (Option.none : Option Jvm.ClassFile.FieldType)).before args0 about1 = true := code_word (m := ⟨3, 1⟩) (meth := k3m1) (c := k3c1) (by decide +kernel) rfl rfl rfl (by decide +kernel)
set_option maxRecDepth 65536 in
theorem w_c6 : (Jvm.Cond.code ({ cls := "com/example/arbor_center/arborcenter/objective/UpperEnvelope", name := "add", desc := "(DD)V" } : Jvm.MethodName) prog_12_method_3_code (18 : Nat) (Option.none : Option Jvm.ClassFile.FieldType)).before args0 about1 = true := code_word (m := ⟨3, 2⟩) (meth := k3m2) (c := k3c2) (by decide +kernel) rfl rfl rfl (by decide +kernel)
set_option maxRecDepth 65536 in
theorem w_c7 : (Jvm.Cond.code ({ cls := "com/example/arbor_center/arborcenter/objective/UpperEnvelope", name := "at", desc := "(I)D" } : Jvm.MethodName) prog_12_method_4_code (10 : Nat) (Option.some Jvm.ClassFile.FieldType.double)).before args0 about1 = true := code_word (m := ⟨3, 3⟩) (meth := k3m3) (c := k3c3) (by decide +kernel) rfl rfl rfl (by decide +kernel)
set_option maxRecDepth 65536 in
theorem w_c8 : (Jvm.Cond.code ({ cls := "java/lang/Math", name := "max", desc := "(DD)D" } : Jvm.MethodName) jdk_29_method_68_code (4 : Nat) (Option.some Jvm.ClassFile.FieldType.double)).before args0 about1 = true := code_word (m := ⟨2, 2⟩) (meth := k2m2) (c := k2c2) (by decide +kernel) rfl rfl rfl (by decide +kernel)
def codes1 : List Jvm.Cond := [Jvm.Cond.code x code maxLocals ret, Jvm.Cond.code ({ cls := "java/lang/Math", name := "min", desc := "(II)I" } : Jvm.MethodName) jdk_29_method_69_code (2 : Nat) (Option.some Jvm.ClassFile.FieldType.int), Jvm.Cond.code ({ cls := "java/lang/Math", name := "max", desc := "(JJ)J" } : Jvm.MethodName) jdk_29_method_66_code (4 : Nat) (Option.some Jvm.ClassFile.FieldType.long), Jvm.Cond.code ({ cls := "com/example/arbor_center/arborcenter/objective/UpperEnvelope", name := "<init>", desc := "(I)V" } : Jvm.MethodName) prog_12_method_1_code (2 : Nat) (Option.none : Option Jvm.ClassFile.FieldType), Jvm.Cond.code ({ cls := "java/lang/Object", name := "<init>", desc := "()V" } : Jvm.MethodName) object_method_1_code (1 : Nat) (Option.none : Option Jvm.ClassFile.FieldType), Jvm.Cond.code ({ cls := "com/example/arbor_center/arborcenter/objective/UpperEnvelope", name := "reset", desc := "([DI)V" } : Jvm.MethodName) prog_12_method_2_code (4 : Nat) (Option.none : Option Jvm.ClassFile.FieldType), Jvm.Cond.code ({ cls := "com/example/arbor_center/arborcenter/objective/UpperEnvelope", name := "add", desc := "(DD)V" } : Jvm.MethodName) prog_12_method_3_code (18 : Nat) (Option.none : Option Jvm.ClassFile.FieldType), Jvm.Cond.code ({ cls := "com/example/arbor_center/arborcenter/objective/UpperEnvelope", name := "at", desc := "(I)D" } : Jvm.MethodName) prog_12_method_4_code (10 : Nat) (Option.some Jvm.ClassFile.FieldType.double), Jvm.Cond.code ({ cls := "java/lang/Math", name := "max", desc := "(DD)D" } : Jvm.MethodName) jdk_29_method_68_code (4 : Nat) (Option.some Jvm.ClassFile.FieldType.double)]
set_option maxRecDepth 65536 in
theorem codes_eq : words1.filter isCode = codes1 := rfl
theorem w_codes : ∀ c ∈ words1.filter isCode, c.before args0 about1 = true := by
  rw [codes_eq]
  intro c hc
  simp only [codes1, List.mem_cons, List.not_mem_nil, or_false] at hc
  rcases hc with rfl | rfl | rfl | rfl | rfl | rfl | rfl | rfl | rfl
  · exact w_c0
  · exact w_c1
  · exact w_c2
  · exact w_c3
  · exact w_c4
  · exact w_c5
  · exact w_c6
  · exact w_c7
  · exact w_c8
set_option maxRecDepth 65536 in
theorem w_t1 : (words1.take 24).all (fun c => isCode c || c.before args0 about1) = true := by decide +kernel
set_option maxRecDepth 65536 in
theorem w_t2 : (words1.drop 24).all (fun c => isCode c || c.before args0 about1) = true := by decide +kernel
theorem w_tables : (allAtoms (Jvm.Cond.code x code maxLocals ret :: tables_1)).before args0 about1 = true := by
  rw [allAtoms_all]
  show words1.all (fun c => c.before args0 about1) = true
  refine all_split ?_ w_codes
  rw [← List.take_append_drop 24 words1, List.all_append, w_t1, w_t2]
  rfl
set_option maxRecDepth 65536 in
theorem w_case : (Jvm.Cond.and given_1 narrow_1).before args0 about1 = true := by decide +kernel
theorem w_applies : (headSpec (Jvm.Cond.code x code maxLocals ret :: tables_1) room_1).applies x e0.platform about1 = true :=
  (Spec.applies_iff w_frames).mpr ⟨w_running, w_runnable, w_alone, w_named, w_hears, w_ripe, w_room, w_tables⟩
set_option maxRecDepth 200000 in
theorem atStart : AtStart classFile x code maxLocals ret World_1 tables_1 room_1 Calls_1 rest_1 Pre_1 launch0 p0 e0 about1 theMethod args0 below0 :=
  ⟨lists_1, trivial, launch0.admits_env _ _ _, launch0.least_env, fairChoices_fair.cas, fairChoices_fair.clock, w_frames, w_args, w_heap, w_applies, trivial, trivial, w_case⟩
end start1
theorem witness_1 : WitnessClaimed_1 := ⟨start1.p0, start1.e0, start1.about1, start1.theMethod, start1.args0, start1.below0, start1.atStart⟩
end Jvm.Pilot.@@N@@
