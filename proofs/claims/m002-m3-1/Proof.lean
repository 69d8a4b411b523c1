import JvmDerived
import JvmDerived.Pilot.@@N@@Statement
import JvmDerived.Pilot.@@N@@Code
set_option linter.unusedVariables false
set_option linter.unusedSimpArgs false
namespace Jvm.Pilot.@@N@@
open Jvm Jvm.ClassFile Sem Op Lib Jvm.Free Jvm.Stand Jvm.LawKit Jvm.RoadKit Bundle Jvm.Pilot.@@N@@.Jvm.D
section OwnKit
variable {p : Program} {l : Launch} {e : Env} {R : Room} {s : State} {m : MethodId} {args : Array Value} {below : List Frame} {meth : Method} {c : Code} {T : State} {locs : List Loc} {cells slots : Nat} {C N : Nat} {F : Outcome → State → List Loc → Prop} {Q : Option Value → Heap → List Loc → Prop} {pc : Nat} {Ls : Array Slot} {S : List Value} {Z : State} {a0 : Array Value} {h : Heap} {own : String}
def Go (p : Program) (e : Env) (below : List Frame) (F : Outcome → State → List Loc → Prop) (Q : Option Value → Heap → List Loc → Prop) (T : State) (g : JFrame) : Prop :=
  ∃ s₂ o, Steps p.tables e below (T.setTop g) s₂ ∧ s₂.status = .running ∧ Ended s₂ below o ∧ ∃ v L, o = .returned v ∧ Q v s₂.heap L ∧ F o s₂ L
def FE (s : State) (C N : Nat) (o : Outcome) (t : State) (L : List Loc) : Prop := FrameEnd s o t L C N
theorem Go.st {T' : State} {g g' : JFrame} (h : Go p e below F Q T' g') (st : ∀ t, Steps p.tables e below (T'.setTop g') t → Steps p.tables e below (T.setTop g) t) : Go p e below F Q T g := by
  obtain ⟨s₂, o, h1, h2⟩ := h
  exact ⟨s₂, o, st _ h1, h2⟩
theorem Go.tr {T' : State} {g g' : JFrame} (h : Go p e below F Q T' g') (st : Steps p.tables e below (T.setTop g) (T'.setTop g')) : Go p e below F Q T g := by
  obtain ⟨s₂, o, h1, h2⟩ := h
  exact ⟨s₂, o, st.trans h1, h2⟩
/-- a body's contract out of its walk -/
theorem metOf {y : MethodName} {bytes : ByteArray} {maxL : Nat} {ret : Option FieldType} {rm : Room} {ws : List Jvm.Cond} {as' : Array Value} {h0 : Heap} (hpl : plainFor y = true)
    (body : ∀ p e s m below meth c s₁, Stand p l e rm s m as' below meth c s₁ [] 0 0 → p.tables.exec = Jvm.exec → c.code = bytes → c.maxLocals = maxL → meth.sig.returnType = ret → meth.locks = false → Z.Warmed39 s.vm → s.vm.findClass y.cls = some m.cls → meth.name = y.name → s₁.heap = h0 → Go p e below (FE s rm.cells rm.slots) Q s₁ (entryFrame m as' maxL)) :
    MetFree l y (head1 (Jvm.Cond.code y bytes maxL ret :: ws) rm) (fun a U => a = as' ∧ Z.Warmed39 U.vm ∧ U.heap = h0) (fun _ _ _ _ _ => True) (fun _ U o U' => ∃ v L, o = .returned v ∧ Q v U'.heap L ∧ FrameEnd U o U' L rm.cells rm.slots) := by
  refine MetFree.of_bodySF hpl hisR ?_
  intro p e s m args below meth c s₁ Bd hml0 hP hK
  obtain ⟨rfl, hZ, hh⟩ := hP
  exact body p e s m below meth c s₁ (Stand.of_body Bd) Bd.exec Bd.bytes hml0 Bd.returns Bd.notSynchronized hZ (findClass_of_methodNamed Bd.named) (name_of_methodNamed Bd.named Bd.method).1 (by rw [← hh, Bd.state]; rfl)
theorem Go.iloadN (X : Stand p l e R s m args below meth c T locs cells slots) (hx : p.tables.exec = Jvm.exec) {k : Fin 4} {v : Int32} (hd : decode c.code pc = .ok (.iload_n k, 1)) (hl : Ls[k.val]? = some (.val (.int v))) (h : Go p e below F Q T (mkF m (pc + 1) Ls (.int v :: S))) : Go p e below F Q T (mkF m pc Ls S) := h.st fun _ k => XS.iloadN X.here hx rfl hd hl k
theorem Go.iload (X : Stand p l e R s m args below meth c T locs cells slots) (hx : p.tables.exec = Jvm.exec) {k : Nat} {v : Int32} (hd : decode c.code pc = .ok (.iload k, 2)) (hl : Ls[k]? = some (.val (.int v))) (h : Go p e below F Q T (mkF m (pc + 2) Ls (.int v :: S))) : Go p e below F Q T (mkF m pc Ls S) := h.st fun _ k => XS.iload X.here hx rfl hd hl k
theorem Go.istoreN (X : Stand p l e R s m args below meth c T locs cells slots) (hx : p.tables.exec = Jvm.exec) {k : Fin 4} {x : Int32} {l' : Array Slot} (hd : decode c.code pc = .ok (.istore_n k, 1)) (hl : storeLocals Ls k.val (.int x) = some l') (h : Go p e below F Q T (mkF m (pc + 1) l' S)) : Go p e below F Q T (mkF m pc Ls (.int x :: S)) := h.st fun _ k => XS.istoreN X.here hx rfl hd rfl hl k
theorem Go.istore (X : Stand p l e R s m args below meth c T locs cells slots) (hx : p.tables.exec = Jvm.exec) {k : Nat} {x : Int32} {l' : Array Slot} (hd : decode c.code pc = .ok (.istore k, 2)) (hl : storeLocals Ls k (.int x) = some l') (h : Go p e below F Q T (mkF m (pc + 2) l' S)) : Go p e below F Q T (mkF m pc Ls (.int x :: S)) := h.st fun _ k => XS.istore X.here hx rfl hd rfl hl k
theorem Go.lloadN (X : Stand p l e R s m args below meth c T locs cells slots) (hx : p.tables.exec = Jvm.exec) {k : Fin 4} {v : Int64} (hd : decode c.code pc = .ok (.lload_n k, 1)) (hl : Ls[k.val]? = some (.val (.long v))) (h : Go p e below F Q T (mkF m (pc + 1) Ls (.long v :: S))) : Go p e below F Q T (mkF m pc Ls S) := h.st fun _ k => XS.lloadN X.here hx rfl hd hl k
theorem Go.lload (X : Stand p l e R s m args below meth c T locs cells slots) (hx : p.tables.exec = Jvm.exec) {k : Nat} {v : Int64} (hd : decode c.code pc = .ok (.lload k, 2)) (hl : Ls[k]? = some (.val (.long v))) (h : Go p e below F Q T (mkF m (pc + 2) Ls (.long v :: S))) : Go p e below F Q T (mkF m pc Ls S) := h.st fun _ k => XS.lload X.here hx rfl hd hl k
theorem Go.lstoreN (X : Stand p l e R s m args below meth c T locs cells slots) (hx : p.tables.exec = Jvm.exec) {k : Fin 4} {x : Int64} {l' : Array Slot} (hd : decode c.code pc = .ok (.lstore_n k, 1)) (hl : storeLocals Ls k.val (.long x) = some l') (h : Go p e below F Q T (mkF m (pc + 1) l' S)) : Go p e below F Q T (mkF m pc Ls (.long x :: S)) := h.st fun _ k => XS.lstoreN X.here hx rfl hd rfl hl k
theorem Go.lstore (X : Stand p l e R s m args below meth c T locs cells slots) (hx : p.tables.exec = Jvm.exec) {k : Nat} {x : Int64} {l' : Array Slot} (hd : decode c.code pc = .ok (.lstore k, 2)) (hl : storeLocals Ls k (.long x) = some l') (h : Go p e below F Q T (mkF m (pc + 2) l' S)) : Go p e below F Q T (mkF m pc Ls (.long x :: S)) := h.st fun _ k => XS.lstore X.here hx rfl hd rfl hl k
theorem Go.aloadN (X : Stand p l e R s m args below meth c T locs cells slots) (hx : p.tables.exec = Jvm.exec) {k : Fin 4} {v : Value} (hd : decode c.code pc = .ok (.aload_n k, 1)) (hl : Ls[k.val]? = some (.val v)) (hv : v.isRef = true) (h : Go p e below F Q T (mkF m (pc + 1) Ls (v :: S))) : Go p e below F Q T (mkF m pc Ls S) := h.st fun _ k => XS.aloadN X.here hx rfl hd hl hv k
theorem Go.aload (X : Stand p l e R s m args below meth c T locs cells slots) (hx : p.tables.exec = Jvm.exec) {k : Nat} {v : Value} (hd : decode c.code pc = .ok (.aload k, 2)) (hl : Ls[k]? = some (.val v)) (hv : v.isRef = true) (h : Go p e below F Q T (mkF m (pc + 2) Ls (v :: S))) : Go p e below F Q T (mkF m pc Ls S) := h.st fun _ k => XS.aload X.here hx rfl hd hl hv k
theorem Go.astoreN (X : Stand p l e R s m args below meth c T locs cells slots) (hx : p.tables.exec = Jvm.exec) {k : Fin 4} {x : Value} {l' : Array Slot} (hd : decode c.code pc = .ok (.astore_n k, 1)) (hv : x.isRef = true) (hl : storeLocals Ls k.val x = some l') (h : Go p e below F Q T (mkF m (pc + 1) l' S)) : Go p e below F Q T (mkF m pc Ls (x :: S)) := h.st fun _ k => XS.astoreN X.here hx rfl hd rfl hv hl k
theorem Go.astore (X : Stand p l e R s m args below meth c T locs cells slots) (hx : p.tables.exec = Jvm.exec) {k : Nat} {x : Value} {l' : Array Slot} (hd : decode c.code pc = .ok (.astore k, 2)) (hv : x.isRef = true) (hl : storeLocals Ls k x = some l') (h : Go p e below F Q T (mkF m (pc + 2) l' S)) : Go p e below F Q T (mkF m pc Ls (x :: S)) := h.st fun _ k => XS.astore X.here hx rfl hd rfl hv hl k
theorem Go.iconst (X : Stand p l e R s m args below meth c T locs cells slots) (hx : p.tables.exec = Jvm.exec) {i : Int} (v : Int32) (hd : decode c.code pc = .ok (.iconst i, 1)) (hv : Int32.ofInt i = v) (h : Go p e below F Q T (mkF m (pc + 1) Ls (.int v :: S))) : Go p e below F Q T (mkF m pc Ls S) := h.st fun _ k => XT.iconstV X.here hx rfl v hd hv k
theorem Go.bipush (X : Stand p l e R s m args below meth c T locs cells slots) (hx : p.tables.exec = Jvm.exec) {i : Int} (v : Int32) (hd : decode c.code pc = .ok (.bipush i, 2)) (hv : (Int8.ofInt i).toInt32 = v) (h : Go p e below F Q T (mkF m (pc + 2) Ls (.int v :: S))) : Go p e below F Q T (mkF m pc Ls S) := h.st fun _ k => XT.bipushV X.here hx rfl v hd hv k
theorem Go.sipush (X : Stand p l e R s m args below meth c T locs cells slots) (hx : p.tables.exec = Jvm.exec) {i : Int} (v : Int32) (hd : decode c.code pc = .ok (.sipush i, 3)) (hv : (Int16.ofInt i).toInt32 = v) (h : Go p e below F Q T (mkF m (pc + 3) Ls (.int v :: S))) : Go p e below F Q T (mkF m pc Ls S) := h.st fun _ k => XT.sipushV X.here hx rfl v hd hv k
theorem Go.lconst (X : Stand p l e R s m args below meth c T locs cells slots) (hx : p.tables.exec = Jvm.exec) {i : Fin 2} (v : Int64) (hd : decode c.code pc = .ok (.lconst i, 1)) (hv : Int64.ofNat i = v) (h : Go p e below F Q T (mkF m (pc + 1) Ls (.long v :: S))) : Go p e below F Q T (mkF m pc Ls S) := h.st fun _ k => XT.lconstV X.here hx rfl v hd hv k
theorem Go.aconstNull (X : Stand p l e R s m args below meth c T locs cells slots) (hx : p.tables.exec = Jvm.exec)  (hd : decode c.code pc = .ok (.aconst_null, 1))  (h : Go p e below F Q T (mkF m (pc + 1) Ls (.null :: S))) : Go p e below F Q T (mkF m pc Ls S) := h.st fun _ k => XS.aconstNull X.here hx rfl hd  k
theorem Go.iadd (X : Stand p l e R s m args below meth c T locs cells slots) (hx : p.tables.exec = Jvm.exec) {x y : Int32} (hd : decode c.code pc = .ok (.iadd, 1))  (h : Go p e below F Q T (mkF m (pc + 1) Ls (.int (x + y) :: S))) : Go p e below F Q T (mkF m pc Ls (.int y :: .int x :: S)) := h.st fun _ k => XS.iadd X.here hx rfl hd rfl k
theorem Go.isub (X : Stand p l e R s m args below meth c T locs cells slots) (hx : p.tables.exec = Jvm.exec) {x y : Int32} (hd : decode c.code pc = .ok (.isub, 1))  (h : Go p e below F Q T (mkF m (pc + 1) Ls (.int (x - y) :: S))) : Go p e below F Q T (mkF m pc Ls (.int y :: .int x :: S)) := h.st fun _ k => XS.isub X.here hx rfl hd rfl k
theorem Go.imul (X : Stand p l e R s m args below meth c T locs cells slots) (hx : p.tables.exec = Jvm.exec) {x y : Int32} (hd : decode c.code pc = .ok (.imul, 1))  (h : Go p e below F Q T (mkF m (pc + 1) Ls (.int (x * y) :: S))) : Go p e below F Q T (mkF m pc Ls (.int y :: .int x :: S)) := h.st fun _ k => XS.imul X.here hx rfl hd rfl k
theorem Go.iand (X : Stand p l e R s m args below meth c T locs cells slots) (hx : p.tables.exec = Jvm.exec) {x y : Int32} (hd : decode c.code pc = .ok (.iand, 1))  (h : Go p e below F Q T (mkF m (pc + 1) Ls (.int (x &&& y) :: S))) : Go p e below F Q T (mkF m pc Ls (.int y :: .int x :: S)) := h.st fun _ k => XS.iand X.here hx rfl hd rfl k
theorem Go.ior (X : Stand p l e R s m args below meth c T locs cells slots) (hx : p.tables.exec = Jvm.exec) {x y : Int32} (hd : decode c.code pc = .ok (.ior, 1))  (h : Go p e below F Q T (mkF m (pc + 1) Ls (.int (x ||| y) :: S))) : Go p e below F Q T (mkF m pc Ls (.int y :: .int x :: S)) := h.st fun _ k => XS.ior X.here hx rfl hd rfl k
theorem Go.ixor (X : Stand p l e R s m args below meth c T locs cells slots) (hx : p.tables.exec = Jvm.exec) {x y : Int32} (hd : decode c.code pc = .ok (.ixor, 1))  (h : Go p e below F Q T (mkF m (pc + 1) Ls (.int (x ^^^ y) :: S))) : Go p e below F Q T (mkF m pc Ls (.int y :: .int x :: S)) := h.st fun _ k => XS.ixor X.here hx rfl hd rfl k
theorem Go.idiv (X : Stand p l e R s m args below meth c T locs cells slots) (hx : p.tables.exec = Jvm.exec) {x y : Int32} (hd : decode c.code pc = .ok (.idiv, 1)) (hy : y ≠ 0) (h : Go p e below F Q T (mkF m (pc + 1) Ls (.int (x / y) :: S))) : Go p e below F Q T (mkF m pc Ls (.int y :: .int x :: S)) := h.st fun _ k => XS.idiv X.here hx rfl hd rfl hy k
theorem Go.ineg (X : Stand p l e R s m args below meth c T locs cells slots) (hx : p.tables.exec = Jvm.exec) {x : Int32} (hd : decode c.code pc = .ok (.ineg, 1))  (h : Go p e below F Q T (mkF m (pc + 1) Ls (.int (-x) :: S))) : Go p e below F Q T (mkF m pc Ls (.int x :: S)) := h.st fun _ k => XS.ineg X.here hx rfl hd rfl k
theorem Go.ladd (X : Stand p l e R s m args below meth c T locs cells slots) (hx : p.tables.exec = Jvm.exec) {x y : Int64} (hd : decode c.code pc = .ok (.ladd, 1))  (h : Go p e below F Q T (mkF m (pc + 1) Ls (.long (x + y) :: S))) : Go p e below F Q T (mkF m pc Ls (.long y :: .long x :: S)) := h.st fun _ k => XS.ladd X.here hx rfl hd rfl k
theorem Go.lsub (X : Stand p l e R s m args below meth c T locs cells slots) (hx : p.tables.exec = Jvm.exec) {x y : Int64} (hd : decode c.code pc = .ok (.lsub, 1))  (h : Go p e below F Q T (mkF m (pc + 1) Ls (.long (x - y) :: S))) : Go p e below F Q T (mkF m pc Ls (.long y :: .long x :: S)) := h.st fun _ k => XS.lsub X.here hx rfl hd rfl k
theorem Go.lmul (X : Stand p l e R s m args below meth c T locs cells slots) (hx : p.tables.exec = Jvm.exec) {x y : Int64} (hd : decode c.code pc = .ok (.lmul, 1))  (h : Go p e below F Q T (mkF m (pc + 1) Ls (.long (x * y) :: S))) : Go p e below F Q T (mkF m pc Ls (.long y :: .long x :: S)) := h.st fun _ k => XS.lmul X.here hx rfl hd rfl k
theorem Go.land (X : Stand p l e R s m args below meth c T locs cells slots) (hx : p.tables.exec = Jvm.exec) {x y : Int64} (hd : decode c.code pc = .ok (.land, 1))  (h : Go p e below F Q T (mkF m (pc + 1) Ls (.long (x &&& y) :: S))) : Go p e below F Q T (mkF m pc Ls (.long y :: .long x :: S)) := h.st fun _ k => XS.land X.here hx rfl hd rfl k
theorem Go.lor (X : Stand p l e R s m args below meth c T locs cells slots) (hx : p.tables.exec = Jvm.exec) {x y : Int64} (hd : decode c.code pc = .ok (.lor, 1))  (h : Go p e below F Q T (mkF m (pc + 1) Ls (.long (x ||| y) :: S))) : Go p e below F Q T (mkF m pc Ls (.long y :: .long x :: S)) := h.st fun _ k => XS.lor X.here hx rfl hd rfl k
theorem Go.lxor (X : Stand p l e R s m args below meth c T locs cells slots) (hx : p.tables.exec = Jvm.exec) {x y : Int64} (hd : decode c.code pc = .ok (.lxor, 1))  (h : Go p e below F Q T (mkF m (pc + 1) Ls (.long (x ^^^ y) :: S))) : Go p e below F Q T (mkF m pc Ls (.long y :: .long x :: S)) := h.st fun _ k => XS.lxor X.here hx rfl hd rfl k
theorem Go.ldiv (X : Stand p l e R s m args below meth c T locs cells slots) (hx : p.tables.exec = Jvm.exec) {x y : Int64} (hd : decode c.code pc = .ok (.ldiv, 1)) (hy : y ≠ 0) (h : Go p e below F Q T (mkF m (pc + 1) Ls (.long (x / y) :: S))) : Go p e below F Q T (mkF m pc Ls (.long y :: .long x :: S)) := h.st fun _ k => XS.ldiv X.here hx rfl hd rfl hy k
theorem Go.lneg (X : Stand p l e R s m args below meth c T locs cells slots) (hx : p.tables.exec = Jvm.exec) {x : Int64} (hd : decode c.code pc = .ok (.lneg, 1))  (h : Go p e below F Q T (mkF m (pc + 1) Ls (.long (-x) :: S))) : Go p e below F Q T (mkF m pc Ls (.long x :: S)) := h.st fun _ k => XS.lneg X.here hx rfl hd rfl k
theorem Go.irem (X : Stand p l e R s m args below meth c T locs cells slots) (hx : p.tables.exec = Jvm.exec) {x y : Int32} (hd : decode c.code pc = .ok (.irem, 1)) (hy : y ≠ 0) (h : Go p e below F Q T (mkF m (pc + 1) Ls (.int (x % y) :: S))) : Go p e below F Q T (mkF m pc Ls (.int y :: .int x :: S)) := h.st fun _ k => Jvm.RoadKit.iremM X hx rfl hd rfl hy k
theorem Go.lrem (X : Stand p l e R s m args below meth c T locs cells slots) (hx : p.tables.exec = Jvm.exec) {x y : Int64} (hd : decode c.code pc = .ok (.lrem, 1)) (hy : y ≠ 0) (h : Go p e below F Q T (mkF m (pc + 1) Ls (.long (x % y) :: S))) : Go p e below F Q T (mkF m pc Ls (.long y :: .long x :: S)) := h.st fun _ k => XS.lrem X.here hx rfl hd rfl hy (by rw [lrem_mod]; exact k)
theorem Go.ishl (X : Stand p l e R s m args below meth c T locs cells slots) (hx : p.tables.exec = Jvm.exec) {x : Int32} {y : Int32} (hd : decode c.code pc = .ok (.ishl, 1))  (h : Go p e below F Q T (mkF m (pc + 1) Ls (.int (x <<< (y &&& 31)) :: S))) : Go p e below F Q T (mkF m pc Ls (.int y :: .int x :: S)) := h.st fun _ k => XS.ishl X.here hx rfl hd rfl k
theorem Go.ishr (X : Stand p l e R s m args below meth c T locs cells slots) (hx : p.tables.exec = Jvm.exec) {x : Int32} {y : Int32} (hd : decode c.code pc = .ok (.ishr, 1))  (h : Go p e below F Q T (mkF m (pc + 1) Ls (.int (x >>> (y &&& 31)) :: S))) : Go p e below F Q T (mkF m pc Ls (.int y :: .int x :: S)) := h.st fun _ k => XS.ishr X.here hx rfl hd rfl k
theorem Go.iushr (X : Stand p l e R s m args below meth c T locs cells slots) (hx : p.tables.exec = Jvm.exec) {x : Int32} {y : Int32} (hd : decode c.code pc = .ok (.iushr, 1))  (h : Go p e below F Q T (mkF m (pc + 1) Ls (.int ((x.toUInt32 >>> (y &&& 31).toUInt32).toInt32) :: S))) : Go p e below F Q T (mkF m pc Ls (.int y :: .int x :: S)) := h.st fun _ k => XS.iushr X.here hx rfl hd rfl k
theorem Go.lshl (X : Stand p l e R s m args below meth c T locs cells slots) (hx : p.tables.exec = Jvm.exec) {x : Int64} {y : Int32} (hd : decode c.code pc = .ok (.lshl, 1))  (h : Go p e below F Q T (mkF m (pc + 1) Ls (.long (x <<< (y &&& 0x3f).toInt64) :: S))) : Go p e below F Q T (mkF m pc Ls (.int y :: .long x :: S)) := h.st fun _ k => XS.lshl X.here hx rfl hd rfl k
theorem Go.lshr (X : Stand p l e R s m args below meth c T locs cells slots) (hx : p.tables.exec = Jvm.exec) {x : Int64} {y : Int32} (hd : decode c.code pc = .ok (.lshr, 1))  (h : Go p e below F Q T (mkF m (pc + 1) Ls (.long (x >>> (y &&& 0x3f).toInt64) :: S))) : Go p e below F Q T (mkF m pc Ls (.int y :: .long x :: S)) := h.st fun _ k => XS.lshr X.here hx rfl hd rfl k
theorem Go.lushr (X : Stand p l e R s m args below meth c T locs cells slots) (hx : p.tables.exec = Jvm.exec) {x : Int64} {y : Int32} (hd : decode c.code pc = .ok (.lushr, 1))  (h : Go p e below F Q T (mkF m (pc + 1) Ls (.long ((x.toUInt64 >>> (y &&& 0x3f).toInt64.toUInt64).toInt64) :: S))) : Go p e below F Q T (mkF m pc Ls (.int y :: .long x :: S)) := h.st fun _ k => XS.lushr X.here hx rfl hd rfl k
theorem Go.i2l (X : Stand p l e R s m args below meth c T locs cells slots) (hx : p.tables.exec = Jvm.exec) {x : Int32} (hd : decode c.code pc = .ok (.i2l, 1))  (h : Go p e below F Q T (mkF m (pc + 1) Ls (.long (x.toInt64) :: S))) : Go p e below F Q T (mkF m pc Ls (.int x :: S)) := h.st fun _ k => XS.i2l X.here hx rfl hd rfl k
theorem Go.l2i (X : Stand p l e R s m args below meth c T locs cells slots) (hx : p.tables.exec = Jvm.exec) {x : Int64} (hd : decode c.code pc = .ok (.l2i, 1))  (h : Go p e below F Q T (mkF m (pc + 1) Ls (.int (x.toInt32) :: S))) : Go p e below F Q T (mkF m pc Ls (.long x :: S)) := h.st fun _ k => XS.l2i X.here hx rfl hd rfl k
theorem Go.i2b (X : Stand p l e R s m args below meth c T locs cells slots) (hx : p.tables.exec = Jvm.exec) {x : Int32} (hd : decode c.code pc = .ok (.i2b, 1))  (h : Go p e below F Q T (mkF m (pc + 1) Ls (.int (x.toInt8.toInt32) :: S))) : Go p e below F Q T (mkF m pc Ls (.int x :: S)) := h.st fun _ k => XS.i2b X.here hx rfl hd rfl k
theorem Go.i2s (X : Stand p l e R s m args below meth c T locs cells slots) (hx : p.tables.exec = Jvm.exec) {x : Int32} (hd : decode c.code pc = .ok (.i2s, 1))  (h : Go p e below F Q T (mkF m (pc + 1) Ls (.int (x.toInt16.toInt32) :: S))) : Go p e below F Q T (mkF m pc Ls (.int x :: S)) := h.st fun _ k => XS.i2s X.here hx rfl hd rfl k
theorem Go.i2c (X : Stand p l e R s m args below meth c T locs cells slots) (hx : p.tables.exec = Jvm.exec) {x : Int32} (hd : decode c.code pc = .ok (.i2c, 1))  (h : Go p e below F Q T (mkF m (pc + 1) Ls (.int (x.toUInt32.toUInt16.toUInt32.toInt32) :: S))) : Go p e below F Q T (mkF m pc Ls (.int x :: S)) := h.st fun _ k => XS.i2c X.here hx rfl hd rfl k
theorem Go.lcmp (X : Stand p l e R s m args below meth c T locs cells slots) (hx : p.tables.exec = Jvm.exec) {x y : Int64} (hd : decode c.code pc = .ok (.lcmp, 1))  (h : Go p e below F Q T (mkF m (pc + 1) Ls (.int (XT.cmpL x y) :: S))) : Go p e below F Q T (mkF m pc Ls (.long y :: .long x :: S)) := h.st fun _ k => XT.lcmp X.here hx rfl hd rfl k
theorem Go.dup (X : Stand p l e R s m args below meth c T locs cells slots) (hx : p.tables.exec = Jvm.exec) {x : Value} (hd : decode c.code pc = .ok (.dup, 1)) (hc : x.category = 1) (h : Go p e below F Q T (mkF m (pc + 1) Ls (x :: x :: S))) : Go p e below F Q T (mkF m pc Ls (x :: S)) := h.st fun _ k => XS.dup X.here hx rfl hd rfl hc k
theorem Go.pop (X : Stand p l e R s m args below meth c T locs cells slots) (hx : p.tables.exec = Jvm.exec) {x : Value} (hd : decode c.code pc = .ok (.pop, 1)) (hc : x.category = 1) (h : Go p e below F Q T (mkF m (pc + 1) Ls S)) : Go p e below F Q T (mkF m pc Ls (x :: S)) := h.st fun _ k => XS.pop X.here hx rfl hd rfl hc k
theorem Go.dupX1 (X : Stand p l e R s m args below meth c T locs cells slots) (hx : p.tables.exec = Jvm.exec) {x y : Value} (hd : decode c.code pc = .ok (.dup_x1, 1)) (hc : x.category = 1) (hc' : y.category = 1) (h : Go p e below F Q T (mkF m (pc + 1) Ls (x :: y :: x :: S))) : Go p e below F Q T (mkF m pc Ls (x :: y :: S)) := h.st fun _ k => XS.dupX1 X.here hx rfl hd rfl hc hc' k
theorem Go.iinc (X : Stand p l e R s m args below meth c T locs cells slots) (hx : p.tables.exec = Jvm.exec) {k : Nat} {cst : Int} {x : Int32} {l' : Array Slot} (v : Int32) (hd : decode c.code pc = .ok (.iinc k cst, 3)) (hv : Int32.ofInt cst = v) (hl : Ls[k]? = some (.val (.int x))) (hl' : storeLocals Ls k (.int (x + v)) = some l') (h : Go p e below F Q T (mkF m (pc + 3) l' S)) : Go p e below F Q T (mkF m pc Ls S) := h.st fun _ k => XT.iincV X.here hx rfl v hd hv hl hl' k
theorem Go.iincF (X : Stand p l e R s m args below meth c T locs cells slots) (hx : p.tables.exec = Jvm.exec) {k : Nat} {cst : Int} {x : Int32} {l' : Array Slot} (v z : Int32) (hd : decode c.code pc = .ok (.iinc k cst, 3)) (hv : Int32.ofInt cst = v) (hz : x + v = z) (hl : Ls[k]? = some (.val (.int x))) (hl' : storeLocals Ls k (.int z) = some l') (h : Go p e below F Q T (mkF m (pc + 3) l' S)) : Go p e below F Q T (mkF m pc Ls S) := Go.iinc X hx v hd hv hl (hz ▸ hl') h
theorem Go.istoreS (X : Stand p l e R s m args below meth c T locs cells slots) (hx : p.tables.exec = Jvm.exec) {k : Nat} {x : Int32} {o : Slot} (hd : decode c.code pc = .ok (.istore k, 2)) (hold : Ls[k]? = some o) (ho : One o) (h : Go p e below F Q T (mkF m (pc + 2) (Ls.setIfInBounds k (.val (.int x))) S)) : Go p e below F Q T (mkF m pc Ls (.int x :: S)) := h.st fun _ q => XS.istoreS X.here hx rfl hd rfl hold ho q
theorem Go.istoreNS (X : Stand p l e R s m args below meth c T locs cells slots) (hx : p.tables.exec = Jvm.exec) {k : Fin 4} {x : Int32} {o : Slot} (hd : decode c.code pc = .ok (.istore_n k, 1)) (hold : Ls[k.val]? = some o) (ho : One o) (h : Go p e below F Q T (mkF m (pc + 1) (Ls.setIfInBounds k.val (.val (.int x))) S)) : Go p e below F Q T (mkF m pc Ls (.int x :: S)) := h.st fun _ q => XS.istoreNS X.here hx rfl hd rfl hold ho q
theorem Go.goto (X : Stand p l e R s m args below meth c T locs cells slots) (hx : p.tables.exec = Jvm.exec) {o : Int} {pc' : Nat} (hd : decode c.code pc = .ok (.goto o, 3)) (ho : 0 ≤ (pc : Int) + o) (hp : ((pc : Int) + o).toNat = pc') (h : Go p e below F Q T (mkF m pc' Ls S)) : Go p e below F Q T (mkF m pc Ls S) := h.st fun _ k => XS.goto X.here hx rfl rfl hd ho hp k
theorem Go.ifYes (X : Stand p l e R s m args below meth c T locs cells slots) (hx : p.tables.exec = Jvm.exec) {cd : ClassFile.Cond} {x : Int32} {o : Int} {pc' : Nat} (hd : decode c.code pc = .ok (.ifCond cd o, 3)) (hc : ifCond.holds cd x = true) (ho : 0 ≤ (pc : Int) + o) (hp : ((pc : Int) + o).toNat = pc') (h : Go p e below F Q T (mkF m pc' Ls S)) : Go p e below F Q T (mkF m pc Ls (.int x :: S)) := h.st fun _ k => XS.ifYes X.here hx rfl rfl hd rfl hc ho hp k
theorem Go.ifNo (X : Stand p l e R s m args below meth c T locs cells slots) (hx : p.tables.exec = Jvm.exec) {cd : ClassFile.Cond} {x : Int32} {o : Int} (hd : decode c.code pc = .ok (.ifCond cd o, 3)) (hc : ifCond.holds cd x = false) (h : Go p e below F Q T (mkF m (pc + 3) Ls S)) : Go p e below F Q T (mkF m pc Ls (.int x :: S)) := h.st fun _ k => XS.ifNo X.here hx rfl hd rfl hc k
theorem Go.icmpYes (X : Stand p l e R s m args below meth c T locs cells slots) (hx : p.tables.exec = Jvm.exec) {cd : ClassFile.Cond} {x y : Int32} {o : Int} {pc' : Nat} (hd : decode c.code pc = .ok (.if_icmp cd o, 3)) (hc : if_icmp.holds cd x y = true) (ho : 0 ≤ (pc : Int) + o) (hp : ((pc : Int) + o).toNat = pc') (h : Go p e below F Q T (mkF m pc' Ls S)) : Go p e below F Q T (mkF m pc Ls (.int y :: .int x :: S)) := h.st fun _ k => XS.icmpYes X.here hx rfl rfl hd rfl hc ho hp k
theorem Go.icmpNo (X : Stand p l e R s m args below meth c T locs cells slots) (hx : p.tables.exec = Jvm.exec) {cd : ClassFile.Cond} {x y : Int32} {o : Int} (hd : decode c.code pc = .ok (.if_icmp cd o, 3)) (hc : if_icmp.holds cd x y = false) (h : Go p e below F Q T (mkF m (pc + 3) Ls S)) : Go p e below F Q T (mkF m pc Ls (.int y :: .int x :: S)) := h.st fun _ k => XS.icmpNo X.here hx rfl hd rfl hc k
theorem Go.ifnullYes (X : Stand p l e R s m args below meth c T locs cells slots) (hx : p.tables.exec = Jvm.exec) {o : Int} {pc' : Nat} (hd : decode c.code pc = .ok (.ifnull o, 3)) (ho : 0 ≤ (pc : Int) + o) (hp : ((pc : Int) + o).toNat = pc') (h : Go p e below F Q T (mkF m pc' Ls S)) : Go p e below F Q T (mkF m pc Ls (.null :: S)) := h.st fun _ k => XS.ifnullYes X.here hx rfl rfl hd rfl ho hp k
theorem Go.ifnullNo (X : Stand p l e R s m args below meth c T locs cells slots) (hx : p.tables.exec = Jvm.exec) {o : Int} {b : Addr} (hd : decode c.code pc = .ok (.ifnull o, 3)) (h : Go p e below F Q T (mkF m (pc + 3) Ls S)) : Go p e below F Q T (mkF m pc Ls (.ref b :: S)) := h.st fun _ k => XS.ifnullNo X.here hx rfl hd rfl k
theorem Go.ifnonnullYes (X : Stand p l e R s m args below meth c T locs cells slots) (hx : p.tables.exec = Jvm.exec) {o : Int} {b : Addr} {pc' : Nat} (hd : decode c.code pc = .ok (.ifnonnull o, 3)) (ho : 0 ≤ (pc : Int) + o) (hp : ((pc : Int) + o).toNat = pc') (h : Go p e below F Q T (mkF m pc' Ls S)) : Go p e below F Q T (mkF m pc Ls (.ref b :: S)) := h.st fun _ k => XS.ifnonnullYes X.here hx rfl rfl hd rfl ho hp k
theorem Go.ifnonnullNo (X : Stand p l e R s m args below meth c T locs cells slots) (hx : p.tables.exec = Jvm.exec) {o : Int} (hd : decode c.code pc = .ok (.ifnonnull o, 3)) (h : Go p e below F Q T (mkF m (pc + 3) Ls S)) : Go p e below F Q T (mkF m pc Ls (.null :: S)) := h.st fun _ k => XS.ifnonnullNo X.here hx rfl hd rfl k
theorem Go.acmpYes (X : Stand p l e R s m args below meth c T locs cells slots) (hx : p.tables.exec = Jvm.exec) {cd : ClassFile.ACond} {x y : Value} {o : Int} {pc' : Nat} (hd : decode c.code pc = .ok (.if_acmp cd o, 3)) (hx' : x.isRef = true) (hy' : y.isRef = true) (hc : XT.acmp cd x y = true) (ho : 0 ≤ (pc : Int) + o) (hp : ((pc : Int) + o).toNat = pc') (h : Go p e below F Q T (mkF m pc' Ls S)) : Go p e below F Q T (mkF m pc Ls (y :: x :: S)) := h.st fun _ k => XT.acmpYes X.here hx rfl rfl hd rfl hx' hy' hc ho hp k
theorem Go.acmpNo (X : Stand p l e R s m args below meth c T locs cells slots) (hx : p.tables.exec = Jvm.exec) {cd : ClassFile.ACond} {x y : Value} {o : Int} (hd : decode c.code pc = .ok (.if_acmp cd o, 3)) (hx' : x.isRef = true) (hy' : y.isRef = true) (hc : XT.acmp cd x y = false) (h : Go p e below F Q T (mkF m (pc + 3) Ls S)) : Go p e below F Q T (mkF m pc Ls (y :: x :: S)) := h.st fun _ k => XT.acmpNo X.here hx rfl hd rfl hx' hy' hc k
theorem Go.ldcI (X : Stand p l e R s m args below meth c T locs cells slots) (hx : p.tables.exec = Jvm.exec) (hZ : Z.Warmed39 s.vm) {index : Nat} {v : Int32} (hown : s.vm.findClass own = some m.cls) (w : (Jvm.Cond.constant own index v).before a0 Z = true) (hd : decode c.code pc = .ok (.ldc index, 2)) (h : Go p e below F Q T (mkF m (pc + 2) Ls (.int v :: S))) : Go p e below F Q T (mkF m pc Ls S) := h.st fun _ k => Jvm.Stand.ldcI X hx hown (mvT hZ w) rfl hd k
theorem Go.ldcWI (X : Stand p l e R s m args below meth c T locs cells slots) (hx : p.tables.exec = Jvm.exec) (hZ : Z.Warmed39 s.vm) {index : Nat} {v : Int32} (hown : s.vm.findClass own = some m.cls) (w : (Jvm.Cond.constant own index v).before a0 Z = true) (hd : decode c.code pc = .ok (.ldc_w index, 3)) (h : Go p e below F Q T (mkF m (pc + 3) Ls (.int v :: S))) : Go p e below F Q T (mkF m pc Ls S) := h.st fun _ k => Jvm.Stand.ldcWI X hx hown (mvT hZ w) rfl hd k
theorem Go.ldc2J (X : Stand p l e R s m args below meth c T locs cells slots) (hx : p.tables.exec = Jvm.exec) (hZ : Z.Warmed39 s.vm) {index : Nat} {v : Int64} (hown : s.vm.findClass own = some m.cls) (w : (Jvm.Cond.constantLong own index v).before a0 Z = true) (hd : decode c.code pc = .ok (.ldc2_w index, 3)) (h : Go p e below F Q T (mkF m (pc + 3) Ls (.long v :: S))) : Go p e below F Q T (mkF m pc Ls S) := h.st fun _ k => Jvm.Stand.ldc2J X hx hown (mvT hZ w) rfl hd k
theorem Go.retN (X : Stand p l e R s m args below meth c T locs cells slots) (hx : p.tables.exec = Jvm.exec) {t : FieldType} {z : Int32} (hret : meth.sig.returnType = some t) (hlk : meth.locks = false) (ht : t = .boolean ∨ t = .byte ∨ t = .char ∨ t = .short) (hd : decode c.code pc = .ok (.ireturn, 1)) (hC : cells ≤ C) (hN : slots ≤ N) (hQ : Q (some (.int (nar t z))) T.heap locs) : Go p e below (FE s C N) Q T (mkF m pc Ls (.int z :: S)) := by
  obtain ⟨fs, hr, hrun, hended, hW, hsame⟩ := X.leave (v := some (.int (nar t z))) (fun h => by rw [hret] at h; cases h) hlk
  exact ⟨_, _, Jvm.RoadKit.retN X hx hret ht hd hr, hrun, hended, _, _, rfl, hQ, ⟨_, rfl⟩, hW, hsame.mono hC hN⟩
theorem Go.retI (X : Stand p l e R s m args below meth c T locs cells slots) (hx : p.tables.exec = Jvm.exec) {z : Int32} (hret : meth.sig.returnType = some .int) (hlk : meth.locks = false) (hd : decode c.code pc = .ok (.ireturn, 1)) (hC : cells ≤ C) (hN : slots ≤ N) (hQ : Q (some (.int z)) T.heap locs) : Go p e below (FE s C N) Q T (mkF m pc Ls (.int z :: S)) := by
  obtain ⟨fs, hr, hrun, hended, hW, hsame⟩ := X.leave (v := some (.int z)) (fun h => by rw [hret] at h; cases h) hlk
  exact ⟨_, _, retOut X hx hret rfl (Or.inl ⟨rfl, Or.inl rfl, _, rfl⟩) hd hr, hrun, hended, _, _, rfl, hQ, ⟨_, rfl⟩, hW, hsame.mono hC hN⟩
theorem Go.retJ (X : Stand p l e R s m args below meth c T locs cells slots) (hx : p.tables.exec = Jvm.exec) {z : Int64} (hret : meth.sig.returnType = some .long) (hlk : meth.locks = false) (hd : decode c.code pc = .ok (.lreturn, 1)) (hC : cells ≤ C) (hN : slots ≤ N) (hQ : Q (some (.long z)) T.heap locs) : Go p e below (FE s C N) Q T (mkF m pc Ls (.long z :: S)) := by
  obtain ⟨fs, hr, hrun, hended, hW, hsame⟩ := X.leave (v := some (.long z)) (fun h => by rw [hret] at h; cases h) hlk
  exact ⟨_, _, retOut X hx hret rfl (Or.inr (Or.inl ⟨rfl, rfl, _, rfl⟩)) hd hr, hrun, hended, _, _, rfl, hQ, ⟨_, rfl⟩, hW, hsame.mono hC hN⟩
theorem Go.retA (X : Stand p l e R s m args below meth c T locs cells slots) (hx : p.tables.exec = Jvm.exec) {w : Value} {t : FieldType} (hret : meth.sig.returnType = some t) (hlk : meth.locks = false) (ht : t.isReference = true) (hw : w.isRef = true) (hn : narrow t w = w) (hd : decode c.code pc = .ok (.areturn, 1)) (hC : cells ≤ C) (hN : slots ≤ N) (hQ : Q (some w) T.heap locs) : Go p e below (FE s C N) Q T (mkF m pc Ls (w :: S)) := by
  obtain ⟨fs, hr, hrun, hended, hW, hsame⟩ := X.leave (v := some w) (fun h => by rw [hret] at h; cases h) hlk
  exact ⟨_, _, retOut X hx hret hn (Or.inr (Or.inr (Or.inr (Or.inr ⟨rfl, ht, hw⟩)))) hd hr, hrun, hended, _, _, rfl, hQ, ⟨_, rfl⟩, hW, hsame.mono hC hN⟩
theorem Go.retV (X : Stand p l e R s m args below meth c T locs cells slots) (hx : p.tables.exec = Jvm.exec) (hret : meth.sig.returnType = none) (hlk : meth.locks = false) (hd : decode c.code pc = .ok (.return_, 1)) (hC : cells ≤ C) (hN : slots ≤ N) (hQ : Q none T.heap locs) : Go p e below (FE s C N) Q T (mkF m pc Ls []) := by
  obtain ⟨fs, hr, hrun, hended, hW, hsame⟩ := X.leave (v := none) (fun _ => rfl) hlk
  exact ⟨_, _, X.returnOut hx hret hd hr, hrun, hended, _, _, rfl, hQ, ⟨_, rfl⟩, hW, hsame.mono hC hN⟩
theorem Go.getF (X : Stand p l e R s m args below meth c T locs cells slots) (hx : p.tables.exec = Jvm.exec) (hZ : Z.Warmed39 s.vm) {R0 O n d host : String} {index : Nat} (hown : s.vm.findClass own = some m.cls) (w : (Jvm.Cond.fieldLink own index R0 n d).before a0 Z = true ∨ (Jvm.Cond.fieldLinkNest own index R0 n d host).before a0 Z = true) (via : Via Z R0 O n d) (eT : T.heap = h) {a : Addr} {v : Value} (Fl : Fld Z h a O n d v) (hd : decode c.code pc = .ok (.getfield index, 3)) (k : ∀ T', Stand p l e R s m args below meth c T' locs cells slots → T'.heap = h → Go p e below F Q T' (mkF m (pc + 3) Ls (v :: S))) : Go p e below F Q T (mkF m pc Ls (.ref a :: S)) := by
  obtain ⟨T', X', e', st⟩ := Jvm.RoadKit.getF X hx hZ hown w via eT Fl (g := mkF m pc Ls (.ref a :: S)) rfl rfl hd
  exact (k T' X' e').st st
theorem Go.getS (X : Stand p l e R s m args below meth c T locs cells slots) (hx : p.tables.exec = Jvm.exec) (hZ : Z.Warmed39 s.vm) {R0 O n d host : String} {index : Nat} (hown : s.vm.findClass own = some m.cls) (w : (Jvm.Cond.fieldLink own index R0 n d).before a0 Z = true ∨ (Jvm.Cond.fieldLinkNest own index R0 n d host).before a0 Z = true) (via : Via Z R0 O n d) (eT : T.heap = h) {v : Value} (Fl : Sta Z h O n d v) (hd : decode c.code pc = .ok (.getstatic index, 3)) (k : ∀ T', Stand p l e R s m args below meth c T' locs cells slots → T'.heap = h → Go p e below F Q T' (mkF m (pc + 3) Ls (v :: S))) : Go p e below F Q T (mkF m pc Ls S) := by
  obtain ⟨T', X', e', st⟩ := getS2 X hx hZ hown w via eT Fl (g := mkF m pc Ls S) rfl hd
  exact (k T' X' e').st st
theorem Go.putF (X : Stand p l e R s m args below meth c T locs cells slots) (hx : p.tables.exec = Jvm.exec) (hZ : Z.Warmed39 s.vm) {R0 O n d host K : String} {index kk : Nat} {ty : FieldType} (hown : s.vm.findClass own = some m.cls) (w : (Jvm.Cond.fieldLink own index R0 n d).before a0 Z = true ∨ (Jvm.Cond.fieldLinkNest own index R0 n d host).before a0 Z = true) (via : Via Z R0 O n d) (eT : T.heap = h) {a : Addr} {v old : Value} (Fl : Fld Z h a O n d old) (E : Exa Z h a K) (L : (Jvm.Cond.lays K O n d).before a0 Z = true ∨ ((Jvm.Cond.laysFinal K O n d).before a0 Z = true ∧ own = O ∧ meth.name = "<init>")) (wi : (Jvm.Cond.instantiable K kk).before a0 Z = true) (hty : parseFieldDescriptor d = some ty) (hn : narrow ty v = v) (hf : fits ty v = true) (hd : decode c.code pc = .ok (.putfield index, 3)) (k : ∀ T' h', Stand p l e R s m args below meth c T' (locs ++ [⟨a, Jvm.RoadKit.slotOf Z O n d⟩]) cells slots → T'.heap = h' → Wr h h' a (Jvm.RoadKit.slotOf Z O n d) v → Go p e below F Q T' (mkF m (pc + 3) Ls S)) : Go p e below F Q T (mkF m pc Ls (v :: .ref a :: S)) := by
  obtain ⟨T', h', X', e', W', st⟩ := Jvm.RoadKit.putF X hx hZ hown w via eT Fl E L wi hty hn hf (g := mkF m pc Ls (v :: .ref a :: S)) rfl rfl hd
  exact (k T' h' X' e' W').st st
theorem Go.newO (X : Stand p l e R s m args below meth c T locs cells slots) (hx : p.tables.exec = Jvm.exec) (hZ : Z.Warmed39 s.vm) {K : String} {index n : Nat} (hown : s.vm.findClass own = some m.cls) (w : (Jvm.Cond.classLink own index K).before a0 Z = true) (wi : (Jvm.Cond.instantiable K n).before a0 Z = true) (wz : (Jvm.Cond.initialized K).before a0 Z = true) (eT : T.heap = h) (hd : decode c.code pc = .ok (.new index, 3)) (hc : cells + 1 ≤ R.cells) (hl : slots + n ≤ R.slots) (k : ∀ T' h' a, a = h.size → Stand p l e R s m args below meth c T' locs (cells + 1) (slots + n) → T'.heap = h' → Ext h h' → Exa Z h' a K → (∀ {O nm d : String} {ty : FieldType}, Laid Z a0 K O nm d → parseFieldDescriptor d = some ty → Fld Z h' a O nm d (defaultValue ty)) → Go p e below F Q T' (mkF m (pc + 3) Ls (.ref a :: S))) : Go p e below F Q T (mkF m pc Ls S) := by
  obtain ⟨T', h', X', e', E', A', D', -, st⟩ := Jvm.RoadKit.newO X hx hZ hown w wi wz eT (g := mkF m pc Ls S) rfl hd hc hl
  exact (k T' h' _ rfl X' e' E' A' D').st st
theorem Go.initO (X : Stand p l e R s m args below meth c T locs cells slots) (hx : p.tables.exec = Jvm.exec) (hZ : Z.Warmed39 s.vm) {idx : Nat} (hown : s.vm.findClass own = some m.cls) (w1 : (Jvm.Cond.methodLink own idx Lib.objectInit).before a0 Z = true) (w2 : (Jvm.Cond.instanceMethod Lib.objectInit).before a0 Z = true) (w3 : (Jvm.Cond.code Lib.objectInit ⟨#[0xb1]⟩ 1 none).before a0 Z = true) (eT : T.heap = h) (hsize : Ls.size = c.maxLocals) {a : Addr} (hd : decode c.code pc = .ok (.invokespecial idx, 3)) (hf : 1 ≤ R.frames) {W : Nat} (hW : (S.map fun v => v.category).sum ≤ W) (hl : W + 12 ≤ R.locals) (k : ∀ T', Stand p l e R s m args below meth c T' locs cells slots → T'.heap = h → Go p e below F Q T' (mkF m (pc + 3) Ls S)) : Go p e below F Q T (mkF m pc Ls (.ref a :: S)) := by
  obtain ⟨T', X', e', st⟩ := Jvm.RoadKit.initO X hx hZ hown w1 w2 w3 eT (g := mkF m pc Ls (.ref a :: S)) rfl hsize rfl hd hf (W := W) (by show 2 * 0 + _ ≤ _; omega) hl
  exact (k T' X' e').st st
theorem Go.callS (X : Stand p l e R s m args below meth c T locs cells slots) (hx : p.tables.exec = Jvm.exec) (hZ : Z.Warmed39 s.vm) {index : Nat} {y : MethodName} {bytes : ByteArray} {maxL : Nat} {ret : Option FieldType} {rm : Room} {as' : Array Value} {Qy : Option Value → Heap → List Loc → Prop} (hM : MetFree l y (head1 [Jvm.Cond.code y bytes maxL ret] rm) (fun a U => a = as' ∧ Z.Warmed39 U.vm ∧ U.heap = h) (fun _ _ _ _ _ => True) (fun _ U o U' => ∃ v L, o = .returned v ∧ Qy v U'.heap L ∧ FrameEnd U o U' L rm.cells rm.slots)) (hown : s.vm.findClass own = some m.cls) (wl : (Jvm.Cond.methodLink own index y).before a0 Z = true) (ws : (Jvm.Cond.static y).before a0 Z = true) (wi : (Jvm.Cond.initialized y.cls).before a0 Z = true) (wc : (Jvm.Cond.code y bytes maxL ret).before a0 Z = true) (hy : y.cls ≠ "java/lang/invoke/MethodHandle" ∧ y.cls ≠ "java/lang/invoke/VarHandle") (eT : T.heap = h) {W : Nat} (hsize : Ls.size = c.maxLocals) {argsL : List Value} (hW : (S.map fun v => v.category).sum ≤ W) (hf : rm.frames + 1 ≤ R.frames) (hl : W + (maxL + 11) + rm.locals ≤ R.locals) (hc : cells + rm.cells ≤ R.cells) (hs : slots + rm.slots ≤ R.slots) {ps : List FieldType} {r : Option FieldType} (hds : parseMethodDescriptor y.desc = some ⟨ps, r⟩) (hlen : argsL.length = ps.length) (has : argsL.toArray = as') (hd : decode c.code pc = .ok (.invokestatic index, 3)) (k : ∀ v T' L, Stand p l e R s m args below meth c T' (locs ++ L) (cells + rm.cells) (slots + rm.slots) → Qy v T'.heap L → Go p e below F Q T' (mkF m (pc + 3) Ls (v.toList ++ S))) : Go p e below F Q T (mkF m pc Ls (argsL.reverse ++ S)) := by
  obtain ⟨_, _, ⟨T', L', k', n'⟩, -, X', ⟨L, hq, e1, e2, e3⟩, st⟩ := Jvm.LawKit.callS X hx hown (mvT hZ wl) (mvT hZ ws) (mvT hZ wi) (mvT hZ wc) hy (backOf (W := W) hM hZ wc wi hf hl) (g := mkF m pc Ls (argsL.reverse ++ S)) rfl hsize (argsL := argsL) (rest := S) (lenOf hds hlen) rfl (by show 2 * 0 + _ ≤ _; omega) hd (fun _ _ => ⟨has, eT, hc, hs⟩)
  dsimp only [Pt.U, Pt.locs, Pt.cells, Pt.slots] at X' e1 e2 e3 st hq
  subst e1 e2 e3
  exact (k _ _ _ X' hq).st st
theorem Go.callI (X : Stand p l e R s m args below meth c T locs cells slots) (hx : p.tables.exec = Jvm.exec) (hZ : Z.Warmed39 s.vm) {index : Nat} {y : MethodName} {bytes : ByteArray} {maxL : Nat} {rm : Room} {as' : Array Value} {Qy : Option Value → Heap → List Loc → Prop} (hM : MetFree l y (head1 [Jvm.Cond.code y bytes maxL none] rm) (fun a U => a = as' ∧ Z.Warmed39 U.vm ∧ U.heap = h) (fun _ _ _ _ _ => True) (fun _ U o U' => ∃ v L, o = .returned v ∧ Qy v U'.heap L ∧ FrameEnd U o U' L rm.cells rm.slots)) (hy1 : y.name = "<init>") (hown : s.vm.findClass own = some m.cls) (wl : (Jvm.Cond.methodLink own index y).before a0 Z = true) (ws : (Jvm.Cond.instanceMethod y).before a0 Z = true) (wi : (Jvm.Cond.initialized y.cls).before a0 Z = true) (wc : (Jvm.Cond.code y bytes maxL none).before a0 Z = true) (hy : y.cls ≠ "java/lang/invoke/MethodHandle" ∧ y.cls ≠ "java/lang/invoke/VarHandle") (eT : T.heap = h) {a : Addr} {W : Nat} (hsize : Ls.size = c.maxLocals) {argsL : List Value} (hW : (S.map fun v => v.category).sum ≤ W) (hf : rm.frames + 1 ≤ R.frames) (hl : W + (maxL + 11) + rm.locals ≤ R.locals) (hc : cells + rm.cells ≤ R.cells) (hs : slots + rm.slots ≤ R.slots) {ps : List FieldType} {r : Option FieldType} (hds : parseMethodDescriptor y.desc = some ⟨ps, r⟩) (hlen : argsL.length = ps.length) (has : (.ref a :: argsL).toArray = as') (hd : decode c.code pc = .ok (.invokespecial index, 3)) (k : ∀ v T' L, Stand p l e R s m args below meth c T' (locs ++ L) (cells + rm.cells) (slots + rm.slots) → Qy v T'.heap L → Go p e below F Q T' (mkF m (pc + 3) Ls (v.toList ++ S))) : Go p e below F Q T (mkF m pc Ls (argsL.reverse ++ .ref a :: S)) := by
  obtain ⟨_, _, ⟨T', L', k', n'⟩, -, X', ⟨L, hq, e1, e2, e3⟩, st⟩ := X.specialBack hx hy1 hown (mvT hZ wl) (mvT hZ ws) (mvT hZ wc) hy (backOf (W := W) hM hZ wc wi hf hl) (g := mkF m pc Ls (argsL.reverse ++ .ref a :: S)) rfl hsize (Steps.refl _) (a := a) (argsL := argsL) (rest := S) (lenOf hds hlen) rfl (by show 2 * 0 + _ ≤ _; omega) hd (fun _ _ => ⟨has, eT, hc, hs⟩)
  dsimp only [Pt.U, Pt.locs, Pt.cells, Pt.slots] at X' e1 e2 e3 st hq
  subst e1 e2 e3
  exact (k _ _ _ X' hq).tr st
theorem Go.callV (X : Stand p l e R s m args below meth c T locs cells slots) (hx : p.tables.exec = Jvm.exec) (hZ : Z.Warmed39 s.vm) {index : Nat} {K : String} {y : MethodName} {bytes : ByteArray} {maxL : Nat} {ret : Option FieldType} {rm : Room} {as' : Array Value} {Qy : Option Value → Heap → List Loc → Prop} (hM : MetFree l y (head1 [Jvm.Cond.code y bytes maxL ret] rm) (fun a U => a = as' ∧ Z.Warmed39 U.vm ∧ U.heap = h) (fun _ _ _ _ _ => True) (fun _ U o U' => ∃ v L, o = .returned v ∧ Qy v U'.heap L ∧ FrameEnd U o U' L rm.cells rm.slots)) {y0 : MethodName} (hy : y0.cls ≠ "java/lang/invoke/MethodHandle" ∧ y0.cls ≠ "java/lang/invoke/VarHandle") (hown : s.vm.findClass own = some m.cls) (wl : (Jvm.Cond.methodLink own index y0).before a0 Z = true) (wd : (Jvm.Cond.declares y0).before a0 Z = true) (hnf : NotFace s y0) (wsel : (Jvm.Cond.selects K y0 y).before a0 Z = true) (ws : (Jvm.Cond.instanceMethod y).before a0 Z = true) (wi : (Jvm.Cond.initialized y.cls).before a0 Z = true) (wc : (Jvm.Cond.code y bytes maxL ret).before a0 Z = true) (eT : T.heap = h) {a : Addr} (E : Exa Z h a K) {W : Nat} (hsize : Ls.size = c.maxLocals) {argsL : List Value} (hW : (S.map fun v => v.category).sum ≤ W) (hf : rm.frames + 1 ≤ R.frames) (hl : W + (maxL + 11) + rm.locals ≤ R.locals) (hc : cells + rm.cells ≤ R.cells) (hs : slots + rm.slots ≤ R.slots) {ps : List FieldType} {r : Option FieldType} (hds : parseMethodDescriptor y0.desc = some ⟨ps, r⟩) (hlen : argsL.length = ps.length) (has : (.ref a :: argsL).toArray = as') (hd : decode c.code pc = .ok (.invokevirtual index, 3)) (k : ∀ v T' L, Stand p l e R s m args below meth c T' (locs ++ L) (cells + rm.cells) (slots + rm.slots) → Qy v T'.heap L → Go p e below F Q T' (mkF m (pc + 3) Ls (v.toList ++ S))) : Go p e below F Q T (mkF m pc Ls (argsL.reverse ++ .ref a :: S)) := by
  obtain ⟨cq, kq, q1, q2, q3⟩ := isOf hZ eT E
  obtain ⟨_, _, ⟨T', L', k', n'⟩, -, X', ⟨L, hq, e1, e2, e3⟩, st⟩ := X.virtualBack hx hown (mvT hZ wl) (mvT hZ wd) hnf (mvT hZ wsel) (mvT hZ ws) hy (backOf (W := W) hM hZ wc wi hf hl) q1 q3 (g := mkF m pc Ls (argsL.reverse ++ .ref a :: S)) rfl hsize (Steps.refl _) (argsL := argsL) (rest := S) (lenOf hds hlen) rfl (by show 2 * 0 + _ ≤ _; omega) hd (fun _ _ => ⟨has, eT, hc, hs⟩)
  dsimp only [Pt.U, Pt.locs, Pt.cells, Pt.slots] at X' e1 e2 e3 st hq
  subst e1 e2 e3
  exact (k _ _ _ X' hq).tr st
theorem Go.instY (X : Stand p l e R s m args below meth c T locs cells slots) (hx : p.tables.exec = Jvm.exec) (hZ : Z.Warmed39 s.vm) {K : String} {index : Nat} (hown : s.vm.findClass own = some m.cls) (w : (Jvm.Cond.classLink own index K).before a0 Z = true) (eT : T.heap = h) {a : Addr} (Fl : Ins Z h a K true) (hd : decode c.code pc = .ok (.instanceof index, 3)) (k : ∀ T', Stand p l e R s m args below meth c T' locs cells slots → T'.heap = h → Go p e below F Q T' (mkF m (pc + 3) Ls (.int 1 :: S))) : Go p e below F Q T (mkF m pc Ls (.ref a :: S)) := by
  obtain ⟨T', X', e', st⟩ := Jvm.RoadKit.instY X hx hZ hown w eT Fl (g := mkF m pc Ls (.ref a :: S)) rfl rfl hd
  exact (k T' X' e').st st
theorem Go.castY (X : Stand p l e R s m args below meth c T locs cells slots) (hx : p.tables.exec = Jvm.exec) (hZ : Z.Warmed39 s.vm) {K : String} {index : Nat} (hown : s.vm.findClass own = some m.cls) (w : (Jvm.Cond.classLink own index K).before a0 Z = true) (eT : T.heap = h) {a : Addr} (Fl : Ins Z h a K true) (hd : decode c.code pc = .ok (.checkcast index, 3)) (k : ∀ T', Stand p l e R s m args below meth c T' locs cells slots → T'.heap = h → Go p e below F Q T' (mkF m (pc + 3) Ls (.ref a :: S))) : Go p e below F Q T (mkF m pc Ls (.ref a :: S)) := by
  obtain ⟨T', X', e', st⟩ := Jvm.RoadKit.castY X hx hZ hown w eT Fl (g := mkF m pc Ls (.ref a :: S)) rfl rfl hd
  exact (k T' X' e').st st
theorem Go.instNo (X : Stand p l e R s m args below meth c T locs cells slots) (hx : p.tables.exec = Jvm.exec) (hZ : Z.Warmed39 s.vm) {K K0 : String} {index : Nat} (hown : s.vm.findClass own = some m.cls) (w : (Jvm.Cond.classLink own index K).before a0 Z = true) (eT : T.heap = h) {a : Addr} (E : Exa Z h a K0) (Fl : ∃ c t, Z.vm.findClass K0 = some c ∧ Z.vm.findClass K = some t ∧ Z.vm.assignable c t = false) (hd : decode c.code pc = .ok (.instanceof index, 3)) (k : ∀ T', Stand p l e R s m args below meth c T' locs cells slots → T'.heap = h → Go p e below F Q T' (mkF m (pc + 3) Ls (.int 0 :: S))) : Go p e below F Q T (mkF m pc Ls (.ref a :: S)) := by
  obtain ⟨T', X', e', st⟩ := Jvm.RoadKit.instNo X hx hZ hown w eT E Fl (g := mkF m pc Ls (.ref a :: S)) rfl rfl hd
  exact (k T' X' e').st st
theorem Go.instNull (X : Stand p l e R s m args below meth c T locs cells slots) (hx : p.tables.exec = Jvm.exec) {index : Nat} (hd : decode c.code pc = .ok (.instanceof index, 3)) (h : Go p e below F Q T (mkF m (pc + 3) Ls (.int 0 :: S))) : Go p e below F Q T (mkF m pc Ls (.null :: S)) := h.st fun _ k => X.instanceofNull hx (g := mkF m pc Ls (.null :: S)) rfl rfl hd _ k
theorem Go.castNull (X : Stand p l e R s m args below meth c T locs cells slots) (hx : p.tables.exec = Jvm.exec) {index : Nat} (hd : decode c.code pc = .ok (.checkcast index, 3)) (h : Go p e below F Q T (mkF m (pc + 3) Ls (.null :: S))) : Go p e below F Q T (mkF m pc Ls (.null :: S)) := h.st fun _ k => X.checkcastNull hx (g := mkF m pc Ls (.null :: S)) rfl rfl hd _ k
theorem own_noSub {K0 S0 K : String} {n : Nat} (w : (Jvm.Cond.superclass K0 S0).before a0 Z = true) (wk : (Jvm.Cond.instantiable K n).before a0 Z = true) (q : NS Z K0 K) (hn : K0 ≠ K) : ∃ c t, Z.vm.findClass K0 = some c ∧ Z.vm.findClass K = some t ∧ Z.vm.assignable c t = false := by
  obtain ⟨c, t, h0, g0, n3⟩ := q
  obtain ⟨p, k, kp, h1, h2, h3, h4, h5, -, h7⟩ := Cond.superclass_spec h0 w
  obtain ⟨t', k', g1, g2, g3, g4, -⟩ := Cond.instantiable_spec wk
  cases g0.symm.trans g1
  have g5 : k'.isInterface = false := by simp only [Bool.or_eq_false_iff] at g4; exact g4.1
  have ne := ids_ne h0 g0 hn
  refine ⟨c, t, h0, g0, ?_⟩
  show Z.vm.assignableAux (255 + 1) c t = false
  simp [Vm.assignableAux, ne, h2, g2, h5, g3, g5, Vm.isSubclass, n3]
theorem own_nsRoot {O K : String} {n : Nat} (w : (Jvm.Cond.noSuperclass O).before a0 Z = true) (wk : (Jvm.Cond.instantiable K n).before a0 Z = true) (hn : O ≠ K) : NS Z O K := by
  obtain ⟨c, k, h1, h2, h3, -, -⟩ := Cond.noSuperclass_spec w
  obtain ⟨t, k', g1, -⟩ := Cond.instantiable_spec wk
  have ne := ids_ne h1 g1 hn
  refine ⟨c, t, h1, g1, fun fuel => ?_⟩
  cases fuel with
  | zero => rfl
  | succ f => simp [Vm.isSubclassAux, ne, h2, h3]
theorem Sta.own_keep {h' : Heap} {K n d : String} {v : Value} {ws : List Addr} (Fl : Sta Z h K n d v) (k : Keep h h' ws) (q : ∀ x ∈ ws, ∀ cell : Cell, h[x]? = some cell → cell.vm.isStatics = false) : Sta Z h' K n d v := by
  obtain ⟨cf, i, kk, f, st, cell, h1, h2, h3, h4, h5, h6, h7⟩ := Fl
  refine ⟨cf, i, kk, f, st, cell, h1, h2, h3, h4, k.2.1 _ _ h5 (fun hm => ?_), h6, h7⟩
  have := q _ hm _ h5
  rw [h6] at this; cases this
theorem Go.newP (X : Stand p l e R s m args below meth c T locs cells slots) (hx : p.tables.exec = Jvm.exec) (hZ : Z.Warmed39 s.vm) {aty : ArrayType} (w : (Jvm.Cond.arrayClass (newarray.typeOf aty)).before a0 Z = true) (eT : T.heap = h) {n : Int32} (hd : decode c.code pc = .ok (.newarray aty, 2)) (hn : ¬ n < 0) {cap : Nat} (hcap : n.toNatClampNeg ≤ cap) (hb : cap * 8 ≤ 536870912) (hc : cells + 1 ≤ R.cells) (hl : slots + cap ≤ R.slots) (k : ∀ T' h' cA a, a = h.size → Stand p l e R s m args below meth c T' locs (cells + 1) (slots + cap) → T'.heap = h' → Ext h h' → Arr Z h' a (newA cA (newarray.typeOf aty) n) (newarray.typeOf aty) → Go p e below F Q T' (mkF m (pc + 2) Ls (.ref a :: S))) : Go p e below F Q T (mkF m pc Ls (.int n :: S)) := by
  obtain ⟨T', h', cA, X', e', E', A', st⟩ := Jvm.RoadKit.newP X hx hZ w eT (g := mkF m pc Ls (.int n :: S)) rfl hd rfl hn hcap hb hc hl
  exact (k T' h' cA _ rfl X' e' E' A').st st
theorem Go.stI (X : Stand p l e R s m args below meth c T locs cells slots) (hx : p.tables.exec = Jvm.exec) (hZ : Z.Warmed39 s.vm) (eT : T.heap = h) {a : Addr} {cl : Cell} (A : Arr Z h a cl .int) {j : Int32} {x : Int32} (hj : ¬ (j < 0 ∨ cl.slots.size ≤ j.toNatClampNeg)) (hd : decode c.code pc = .ok (.iastore, 1)) (k : ∀ T' h', Stand p l e R s m args below meth c T' (locs ++ [⟨a, j.toNatClampNeg⟩]) cells slots → T'.heap = h' → Wr h h' a j.toNatClampNeg (.int x) → Go p e below F Q T' (mkF m (pc + 1) Ls S)) : Go p e below F Q T (mkF m pc Ls (.int x :: .int j :: .ref a :: S)) := by
  obtain ⟨T', h', X', e', W', st⟩ := Jvm.RoadKit.stI X hx hZ eT A hj (g := mkF m pc Ls (.int x :: .int j :: .ref a :: S)) rfl rfl hd
  exact (k T' h' X' e' W').st st
theorem Go.stC (X : Stand p l e R s m args below meth c T locs cells slots) (hx : p.tables.exec = Jvm.exec) (hZ : Z.Warmed39 s.vm) (eT : T.heap = h) {a : Addr} {cl : Cell} (A : Arr Z h a cl .char) {j : Int32} {x : Int32} (hj : ¬ (j < 0 ∨ cl.slots.size ≤ j.toNatClampNeg)) (hd : decode c.code pc = .ok (.castore, 1)) (k : ∀ T' h', Stand p l e R s m args below meth c T' (locs ++ [⟨a, j.toNatClampNeg⟩]) cells slots → T'.heap = h' → Wr h h' a j.toNatClampNeg (.int (nar .char x)) → Go p e below F Q T' (mkF m (pc + 1) Ls S)) : Go p e below F Q T (mkF m pc Ls (.int x :: .int j :: .ref a :: S)) := by
  obtain ⟨T', h', X', e', W', st⟩ := Jvm.RoadKit.stC X hx hZ eT A hj (g := mkF m pc Ls (.int x :: .int j :: .ref a :: S)) rfl rfl hd
  exact (k T' h' X' e' W').st st
theorem Go.stB (X : Stand p l e R s m args below meth c T locs cells slots) (hx : p.tables.exec = Jvm.exec) (hZ : Z.Warmed39 s.vm) (eT : T.heap = h) {a : Addr} {cl : Cell} (A : Arr Z h a cl .byte) {j : Int32} {x : Int32} (hj : ¬ (j < 0 ∨ cl.slots.size ≤ j.toNatClampNeg)) (hd : decode c.code pc = .ok (.bastore, 1)) (k : ∀ T' h', Stand p l e R s m args below meth c T' (locs ++ [⟨a, j.toNatClampNeg⟩]) cells slots → T'.heap = h' → Wr h h' a j.toNatClampNeg (.int (nar .byte x)) → Go p e below F Q T' (mkF m (pc + 1) Ls S)) : Go p e below F Q T (mkF m pc Ls (.int x :: .int j :: .ref a :: S)) := by
  obtain ⟨T', h', X', e', W', st⟩ := Jvm.RoadKit.stB X hx hZ eT A hj (g := mkF m pc Ls (.int x :: .int j :: .ref a :: S)) rfl rfl hd
  exact (k T' h' X' e' W').st st
theorem Go.stZ (X : Stand p l e R s m args below meth c T locs cells slots) (hx : p.tables.exec = Jvm.exec) (hZ : Z.Warmed39 s.vm) (eT : T.heap = h) {a : Addr} {cl : Cell} (A : Arr Z h a cl .boolean) {j : Int32} {x : Int32} (hj : ¬ (j < 0 ∨ cl.slots.size ≤ j.toNatClampNeg)) (hd : decode c.code pc = .ok (.bastore, 1)) (k : ∀ T' h', Stand p l e R s m args below meth c T' (locs ++ [⟨a, j.toNatClampNeg⟩]) cells slots → T'.heap = h' → Wr h h' a j.toNatClampNeg (.int (nar .boolean x)) → Go p e below F Q T' (mkF m (pc + 1) Ls S)) : Go p e below F Q T (mkF m pc Ls (.int x :: .int j :: .ref a :: S)) := by
  obtain ⟨T', h', X', e', W', st⟩ := Jvm.RoadKit.stZ X hx hZ eT A hj (g := mkF m pc Ls (.int x :: .int j :: .ref a :: S)) rfl rfl hd
  exact (k T' h' X' e' W').st st
theorem Go.stS (X : Stand p l e R s m args below meth c T locs cells slots) (hx : p.tables.exec = Jvm.exec) (hZ : Z.Warmed39 s.vm) (eT : T.heap = h) {a : Addr} {cl : Cell} (A : Arr Z h a cl .short) {j : Int32} {x : Int32} (hj : ¬ (j < 0 ∨ cl.slots.size ≤ j.toNatClampNeg)) (hd : decode c.code pc = .ok (.sastore, 1)) (k : ∀ T' h', Stand p l e R s m args below meth c T' (locs ++ [⟨a, j.toNatClampNeg⟩]) cells slots → T'.heap = h' → Wr h h' a j.toNatClampNeg (.int (nar .short x)) → Go p e below F Q T' (mkF m (pc + 1) Ls S)) : Go p e below F Q T (mkF m pc Ls (.int x :: .int j :: .ref a :: S)) := by
  obtain ⟨T', h', X', e', W', st⟩ := Jvm.RoadKit.stS X hx hZ eT A hj (g := mkF m pc Ls (.int x :: .int j :: .ref a :: S)) rfl rfl hd
  exact (k T' h' X' e' W').st st
theorem Go.stJ (X : Stand p l e R s m args below meth c T locs cells slots) (hx : p.tables.exec = Jvm.exec) (hZ : Z.Warmed39 s.vm) (eT : T.heap = h) {a : Addr} {cl : Cell} (A : Arr Z h a cl .long) {j : Int32} {x : Int64} (hj : ¬ (j < 0 ∨ cl.slots.size ≤ j.toNatClampNeg)) (hd : decode c.code pc = .ok (.lastore, 1)) (k : ∀ T' h', Stand p l e R s m args below meth c T' (locs ++ [⟨a, j.toNatClampNeg⟩]) cells slots → T'.heap = h' → Wr h h' a j.toNatClampNeg (.long x) → Go p e below F Q T' (mkF m (pc + 1) Ls S)) : Go p e below F Q T (mkF m pc Ls (.long x :: .int j :: .ref a :: S)) := by
  obtain ⟨T', h', X', e', W', st⟩ := Jvm.RoadKit.stJ X hx hZ eT A hj (g := mkF m pc Ls (.long x :: .int j :: .ref a :: S)) rfl rfl hd
  exact (k T' h' X' e' W').st st
theorem Go.iaload (X : Stand p l e R s m args below meth c T locs cells slots) (hx : p.tables.exec = Jvm.exec) (hZ : Z.Warmed39 s.vm) (eT : T.heap = h) {a : Addr} {cl : Cell} (A : Arr Z h a cl .int) {j : Int32} {v : Value} (hj : ¬ (j < 0 ∨ cl.slots.size ≤ j.toNatClampNeg)) (hv : cl.slots[j.toNatClampNeg]? = some v) (hd : decode c.code pc = .ok (.iaload, 1)) (k : Go p e below F Q T (mkF m (pc + 1) Ls (v :: S))) : Go p e below F Q T (mkF m pc Ls (.int j :: .ref a :: S)) := k.st fun _ q => X.iaload hx (by rw [eT]; exact A.1) (State.isArrayOf_alike hZ.alike A.2.1) A.2.2 hj hv (g := mkF m pc Ls (.int j :: .ref a :: S)) rfl rfl hd _ q
theorem Go.caload (X : Stand p l e R s m args below meth c T locs cells slots) (hx : p.tables.exec = Jvm.exec) (hZ : Z.Warmed39 s.vm) (eT : T.heap = h) {a : Addr} {cl : Cell} (A : Arr Z h a cl .char) {j : Int32} {v : Value} (hj : ¬ (j < 0 ∨ cl.slots.size ≤ j.toNatClampNeg)) (hv : cl.slots[j.toNatClampNeg]? = some v) (hd : decode c.code pc = .ok (.caload, 1)) (k : Go p e below F Q T (mkF m (pc + 1) Ls (v :: S))) : Go p e below F Q T (mkF m pc Ls (.int j :: .ref a :: S)) := k.st fun _ q => X.caload hx (by rw [eT]; exact A.1) (State.isArrayOf_alike hZ.alike A.2.1) A.2.2 hj hv (g := mkF m pc Ls (.int j :: .ref a :: S)) rfl rfl hd _ q
theorem Go.saload (X : Stand p l e R s m args below meth c T locs cells slots) (hx : p.tables.exec = Jvm.exec) (hZ : Z.Warmed39 s.vm) (eT : T.heap = h) {a : Addr} {cl : Cell} (A : Arr Z h a cl .short) {j : Int32} {v : Value} (hj : ¬ (j < 0 ∨ cl.slots.size ≤ j.toNatClampNeg)) (hv : cl.slots[j.toNatClampNeg]? = some v) (hd : decode c.code pc = .ok (.saload, 1)) (k : Go p e below F Q T (mkF m (pc + 1) Ls (v :: S))) : Go p e below F Q T (mkF m pc Ls (.int j :: .ref a :: S)) := k.st fun _ q => X.saload hx (by rw [eT]; exact A.1) (State.isArrayOf_alike hZ.alike A.2.1) A.2.2 hj hv (g := mkF m pc Ls (.int j :: .ref a :: S)) rfl rfl hd _ q
theorem Go.laload (X : Stand p l e R s m args below meth c T locs cells slots) (hx : p.tables.exec = Jvm.exec) (hZ : Z.Warmed39 s.vm) (eT : T.heap = h) {a : Addr} {cl : Cell} (A : Arr Z h a cl .long) {j : Int32} {v : Value} (hj : ¬ (j < 0 ∨ cl.slots.size ≤ j.toNatClampNeg)) (hv : cl.slots[j.toNatClampNeg]? = some v) (hd : decode c.code pc = .ok (.laload, 1)) (k : Go p e below F Q T (mkF m (pc + 1) Ls (v :: S))) : Go p e below F Q T (mkF m pc Ls (.int j :: .ref a :: S)) := k.st fun _ q => X.laload hx (by rw [eT]; exact A.1) (State.isArrayOf_alike hZ.alike A.2.1) A.2.2 hj hv (g := mkF m pc Ls (.int j :: .ref a :: S)) rfl rfl hd _ q
theorem Go.baload (X : Stand p l e R s m args below meth c T locs cells slots) (hx : p.tables.exec = Jvm.exec) (hZ : Z.Warmed39 s.vm) (eT : T.heap = h) {a : Addr} {cl : Cell} (A : Arr Z h a cl .byte) {j : Int32} {v : Value} (hj : ¬ (j < 0 ∨ cl.slots.size ≤ j.toNatClampNeg)) (hv : cl.slots[j.toNatClampNeg]? = some v) (hd : decode c.code pc = .ok (.baload, 1)) (k : Go p e below F Q T (mkF m (pc + 1) Ls (v :: S))) : Go p e below F Q T (mkF m pc Ls (.int j :: .ref a :: S)) := k.st fun _ q => X.baloadBytes hx (by rw [eT]; exact A.1) (State.isArrayOf_alike hZ.alike A.2.1) A.2.2 hj hv (g := mkF m pc Ls (.int j :: .ref a :: S)) rfl rfl hd _ q
theorem Go.aaload (X : Stand p l e R s m args below meth c T locs cells slots) (hx : p.tables.exec = Jvm.exec) (hZ : Z.Warmed39 s.vm) (eT : T.heap = h) {a : Addr} {cl : Cell} {ty : FieldType} (A : Arr Z h a cl ty) (hty : ty.isReference = true) {j : Int32} {v : Value} (hj : ¬ (j < 0 ∨ cl.slots.size ≤ j.toNatClampNeg)) (hv : cl.slots[j.toNatClampNeg]? = some v) (hd : decode c.code pc = .ok (.aaload, 1)) (k : Go p e below F Q T (mkF m (pc + 1) Ls (v :: S))) : Go p e below F Q T (mkF m pc Ls (.int j :: .ref a :: S)) := k.st fun _ q => X.aaload hx (by rw [eT]; exact A.1) (State.isArrayOf_alike hZ.alike A.2.1) hty A.2.2 hj hv (g := mkF m pc Ls (.int j :: .ref a :: S)) rfl rfl hd _ q
theorem Go.arraylength (X : Stand p l e R s m args below meth c T locs cells slots) (hx : p.tables.exec = Jvm.exec) (hZ : Z.Warmed39 s.vm) (eT : T.heap = h) {a : Addr} {cl : Cell} {ty : FieldType} (A : Arr Z h a cl ty) {n : Int32} (S1 : cl.slots.size = n.toNatClampNeg) (hn : ¬ n < 0) (hd : decode c.code pc = .ok (.arraylength, 1)) (k : Go p e below F Q T (mkF m (pc + 1) Ls (.int n :: S))) : Go p e below F Q T (mkF m pc Ls (.ref a :: S)) := k.st fun _ q => X.arraylength hx (by rw [eT]; exact A.1) (State.isArrayOf_alike hZ.alike A.2.1) (g := mkF m pc Ls (.ref a :: S)) rfl rfl hd _ (by rw [len_of S1 hn]; exact q)
theorem Go.callIB (X : Stand p l e R s m args below meth c T locs cells slots) (hx : p.tables.exec = Jvm.exec) (hZ : Z.Warmed39 s.vm) {index : Nat} {y : MethodName} {as' : Array Value} {C1 N1 : Nat} {Qy : Option Value → Heap → List Loc → Prop} {W : Nat} (hK : Back l R p e below s args y 3 W (fun P a => a = as' ∧ P.U.heap = h ∧ P.cells + C1 ≤ R.cells ∧ P.slots + N1 ≤ R.slots) (fun P _ v B => ∃ L, Qy v B.U.heap L ∧ B.locs = P.locs ++ L ∧ B.cells = P.cells + C1 ∧ B.slots = P.slots + N1)) (hy1 : y.name = "<init>") (hown : s.vm.findClass own = some m.cls) (wl : (Jvm.Cond.methodLink own index y).before a0 Z = true) (ws : (Jvm.Cond.instanceMethod y).before a0 Z = true) {bytes : ByteArray} {maxL : Nat} (wc : (Jvm.Cond.code y bytes maxL none).before a0 Z = true) (hy : y.cls ≠ "java/lang/invoke/MethodHandle" ∧ y.cls ≠ "java/lang/invoke/VarHandle") (eT : T.heap = h) {a : Addr} (hsize : Ls.size = c.maxLocals) {argsL : List Value} (hW : (S.map fun v => v.category).sum ≤ W) (hc : cells + C1 ≤ R.cells) (hs : slots + N1 ≤ R.slots) {ps : List FieldType} {r : Option FieldType} (hds : parseMethodDescriptor y.desc = some ⟨ps, r⟩) (hlen : argsL.length = ps.length) (has : (.ref a :: argsL).toArray = as') (hd : decode c.code pc = .ok (.invokespecial index, 3)) (k : ∀ v T' L, Stand p l e R s m args below meth c T' (locs ++ L) (cells + C1) (slots + N1) → Qy v T'.heap L → Go p e below F Q T' (mkF m (pc + 3) Ls (v.toList ++ S))) : Go p e below F Q T (mkF m pc Ls (argsL.reverse ++ .ref a :: S)) := by
  obtain ⟨_, _, ⟨T', L', k', n'⟩, -, X', ⟨L, hq, e1, e2, e3⟩, st⟩ := X.specialBack hx hy1 hown (mvT hZ wl) (mvT hZ ws) (mvT hZ wc) hy hK (g := mkF m pc Ls (argsL.reverse ++ .ref a :: S)) rfl hsize (Steps.refl _) (a := a) (argsL := argsL) (rest := S) (lenOf hds hlen) rfl (by show 2 * 0 + _ ≤ _; omega) hd (fun _ _ => ⟨has, eT, hc, hs⟩)
  dsimp only [Pt.U, Pt.locs, Pt.cells, Pt.slots] at X' e1 e2 e3 st hq
  subst e1 e2 e3
  exact (k _ _ _ X' hq).tr st
theorem Go.callVB (X : Stand p l e R s m args below meth c T locs cells slots) (hx : p.tables.exec = Jvm.exec) (hZ : Z.Warmed39 s.vm) {index : Nat} {K : String} {y : MethodName} {as' : Array Value} {C1 N1 : Nat} {Qy : Option Value → Heap → List Loc → Prop} {W : Nat} (hK : Back l R p e below s args y 3 W (fun P a => a = as' ∧ P.U.heap = h ∧ P.cells + C1 ≤ R.cells ∧ P.slots + N1 ≤ R.slots) (fun P _ v B => ∃ L, Qy v B.U.heap L ∧ B.locs = P.locs ++ L ∧ B.cells = P.cells + C1 ∧ B.slots = P.slots + N1)) {y0 : MethodName} (hy : y0.cls ≠ "java/lang/invoke/MethodHandle" ∧ y0.cls ≠ "java/lang/invoke/VarHandle") (hown : s.vm.findClass own = some m.cls) (wl : (Jvm.Cond.methodLink own index y0).before a0 Z = true) (wd : (Jvm.Cond.declares y0).before a0 Z = true) (hnf : NotFace s y0) (wsel : (Jvm.Cond.selects K y0 y).before a0 Z = true) (ws : (Jvm.Cond.instanceMethod y).before a0 Z = true) (eT : T.heap = h) {a : Addr} (E : Exa Z h a K) (hsize : Ls.size = c.maxLocals) {argsL : List Value} (hW : (S.map fun v => v.category).sum ≤ W) (hc : cells + C1 ≤ R.cells) (hs : slots + N1 ≤ R.slots) {ps : List FieldType} {r : Option FieldType} (hds : parseMethodDescriptor y0.desc = some ⟨ps, r⟩) (hlen : argsL.length = ps.length) (has : (.ref a :: argsL).toArray = as') (hd : decode c.code pc = .ok (.invokevirtual index, 3)) (k : ∀ v T' L, Stand p l e R s m args below meth c T' (locs ++ L) (cells + C1) (slots + N1) → Qy v T'.heap L → Go p e below F Q T' (mkF m (pc + 3) Ls (v.toList ++ S))) : Go p e below F Q T (mkF m pc Ls (argsL.reverse ++ .ref a :: S)) := by
  obtain ⟨cq, kq, q1, q2, q3⟩ := isOf hZ eT E
  obtain ⟨_, _, ⟨T', L', k', n'⟩, -, X', ⟨L, hq, e1, e2, e3⟩, st⟩ := X.virtualBack hx hown (mvT hZ wl) (mvT hZ wd) hnf (mvT hZ wsel) (mvT hZ ws) hy hK q1 q3 (g := mkF m pc Ls (argsL.reverse ++ .ref a :: S)) rfl hsize (Steps.refl _) (argsL := argsL) (rest := S) (lenOf hds hlen) rfl (by show 2 * 0 + _ ≤ _; omega) hd (fun _ _ => ⟨has, eT, hc, hs⟩)
  dsimp only [Pt.U, Pt.locs, Pt.cells, Pt.slots] at X' e1 e2 e3 st hq
  subst e1 e2 e3
  exact (k _ _ _ X' hq).tr st
end OwnKit
section OwnKitD
variable {p : Program} {l : Launch} {e : Env} {R : Room} {s : State} {m : MethodId} {args : Array Value} {below : List Frame} {meth : Method} {c : Code} {T : State} {locs : List Loc} {cells slots : Nat} {C N : Nat} {F : Outcome → State → List Loc → Prop} {Q : Option Value → Heap → List Loc → Prop} {pc : Nat} {Ls : Array Slot} {S : List Value} {Z : State} {a0 : Array Value} {h h' : Heap} {own : String}
theorem Go.dload (X : Stand p l e R s m args below meth c T locs cells slots) (hx : p.tables.exec = Jvm.exec) {k : Nat} {v : UInt64} (hd : decode c.code pc = .ok (.dload k, 2)) (hl : Ls[k]? = some (.val (.double v))) (h : Go p e below F Q T (mkF m (pc + 2) Ls (.double v :: S))) : Go p e below F Q T (mkF m pc Ls S) := h.st fun _ k => XS.dload X.here hx rfl hd hl k
theorem Go.dloadN (X : Stand p l e R s m args below meth c T locs cells slots) (hx : p.tables.exec = Jvm.exec) {k : Fin 4} {v : UInt64} (hd : decode c.code pc = .ok (.dload_n k, 1)) (hl : Ls[k.val]? = some (.val (.double v))) (h : Go p e below F Q T (mkF m (pc + 1) Ls (.double v :: S))) : Go p e below F Q T (mkF m pc Ls S) := h.st fun _ k => XS.dloadN X.here hx rfl hd hl k
theorem Go.dstore (X : Stand p l e R s m args below meth c T locs cells slots) (hx : p.tables.exec = Jvm.exec) {k : Nat} {x : UInt64} {l' : Array Slot} (hd : decode c.code pc = .ok (.dstore k, 2)) (hl : storeLocals Ls k (.double x) = some l') (h : Go p e below F Q T (mkF m (pc + 2) l' S)) : Go p e below F Q T (mkF m pc Ls (.double x :: S)) := h.st fun _ k => XS.dstore X.here hx rfl hd rfl hl k
theorem Go.dstoreN (X : Stand p l e R s m args below meth c T locs cells slots) (hx : p.tables.exec = Jvm.exec) {k : Fin 4} {x : UInt64} {l' : Array Slot} (hd : decode c.code pc = .ok (.dstore_n k, 1)) (hl : storeLocals Ls k.val (.double x) = some l') (h : Go p e below F Q T (mkF m (pc + 1) l' S)) : Go p e below F Q T (mkF m pc Ls (.double x :: S)) := h.st fun _ k => XS.dstoreN X.here hx rfl hd rfl hl k
theorem Go.dconst0 (X : Stand p l e R s m args below meth c T locs cells slots) (hx : p.tables.exec = Jvm.exec)  (hd : decode c.code pc = .ok (.dconst 0, 1))  (h : Go p e below F Q T (mkF m (pc + 1) Ls (.double FP.dconst0 :: S))) : Go p e below F Q T (mkF m pc Ls S) := h.st fun _ k => XS.dconst0 X.here hx rfl hd rfl k
theorem Go.dconst1 (X : Stand p l e R s m args below meth c T locs cells slots) (hx : p.tables.exec = Jvm.exec)  (hd : decode c.code pc = .ok (.dconst 1, 1))  (h : Go p e below F Q T (mkF m (pc + 1) Ls (.double FP.dconst1 :: S))) : Go p e below F Q T (mkF m pc Ls S) := h.st fun _ k => XS.dconst1 X.here hx rfl hd rfl k
theorem Go.i2d (X : Stand p l e R s m args below meth c T locs cells slots) (hx : p.tables.exec = Jvm.exec) {x : Int32} (hd : decode c.code pc = .ok (.i2d, 1))  (h : Go p e below F Q T (mkF m (pc + 1) Ls (.double (FP.i2d x) :: S))) : Go p e below F Q T (mkF m pc Ls (.int x :: S)) := h.st fun _ k => XS.i2dS X.here hx rfl hd rfl rfl k
theorem Go.l2d (X : Stand p l e R s m args below meth c T locs cells slots) (hx : p.tables.exec = Jvm.exec) {x : Int64} (hd : decode c.code pc = .ok (.l2d, 1))  (h : Go p e below F Q T (mkF m (pc + 1) Ls (.double (FP.l2d x) :: S))) : Go p e below F Q T (mkF m pc Ls (.long x :: S)) := h.st fun _ k => XS.l2dS X.here hx rfl hd rfl rfl k
theorem Go.dcmp (X : Stand p l e R s m args below meth c T locs cells slots) (hx : p.tables.exec = Jvm.exec) {o : CmpOp} {x y : UInt64} {v : Int32} (hd : decode c.code pc = .ok (.dcmp o, 1)) (hv : cmpValue (FP.dcmp x y) o = v) (h : Go p e below F Q T (mkF m (pc + 1) Ls (.int v :: S))) : Go p e below F Q T (mkF m pc Ls (.double y :: .double x :: S)) := h.st fun _ k => XS.dcmpS X.here hx rfl hd rfl hv k
theorem Go.dmul (X : Stand p l e R s m args below meth c T locs cells slots) (hx : p.tables.exec = Jvm.exec) {x y : UInt64} (hd : decode c.code pc = .ok (.dmul, 1)) (hn : Jvm.Free.Fl.NoNaN64 (FP.dmul x y)) (h : Go p e below F Q T (mkF m (pc + 1) Ls (.double (FP.dmul x y) :: S))) : Go p e below F Q T (mkF m pc Ls (.double y :: .double x :: S)) := h.st fun _ k => XS.dmulS X.here hx rfl hd rfl hn rfl k
theorem Go.ddiv (X : Stand p l e R s m args below meth c T locs cells slots) (hx : p.tables.exec = Jvm.exec) {x y : UInt64} (hd : decode c.code pc = .ok (.ddiv, 1)) (hn : Jvm.Free.Fl.NoNaN64 (FP.ddiv x y)) (h : Go p e below F Q T (mkF m (pc + 1) Ls (.double (FP.ddiv x y) :: S))) : Go p e below F Q T (mkF m pc Ls (.double y :: .double x :: S)) := h.st fun _ k => XS.ddivS X.here hx rfl hd rfl hn rfl k
theorem Go.ldc2D (X : Stand p l e R s m args below meth c T locs cells slots) (hx : p.tables.exec = Jvm.exec) (hZ : Z.Warmed39 s.vm) {index : Nat} {v : UInt64} (hown : s.vm.findClass own = some m.cls) (w : (Jvm.Cond.constantDouble own index v).before a0 Z = true) (hd : decode c.code pc = .ok (.ldc2_w index, 3)) (h : Go p e below F Q T (mkF m (pc + 3) Ls (.double v :: S))) : Go p e below F Q T (mkF m pc Ls S) := h.st fun _ k => X.ldc2DoubleC hx hown (mvT hZ w) (g := mkF m pc Ls S) rfl hd _ k
theorem Go.retD (X : Stand p l e R s m args below meth c T locs cells slots) (hx : p.tables.exec = Jvm.exec) {C N : Nat} {z : UInt64} (hret : meth.sig.returnType = some .double) (hlk : meth.locks = false) (hd : decode c.code pc = .ok (.dreturn, 1)) (hC : cells ≤ C) (hN : slots ≤ N) (hQ : Q (some (.double z)) T.heap locs) : Go p e below (FE s C N) Q T (mkF m pc Ls (.double z :: S)) := by
  obtain ⟨fs, hr, hrun, hended, hW, hsame⟩ := X.leave (v := some (.double z)) (fun h => by rw [hret] at h; cases h) hlk
  exact ⟨_, _, retOut X hx hret rfl (Or.inr (Or.inr (Or.inl ⟨rfl, rfl, _, rfl⟩))) hd hr, hrun, hended, _, _, rfl, hQ, ⟨_, rfl⟩, hW, hsame.mono hC hN⟩
end OwnKitD

section OwnFl
open Jvm.FP.Core
theorem own_sgn {i : Int} {s : Bool} {c : Nat} {q : Int} (h : Whole i (.fin s c q)) (hi : 0 < i) : s = false ∧ 0 < c := by
  have p := Nat.two_pow_pos (-q).toNat
  have h' : signed s (c * 2 ^ q.toNat) = i * ((2 ^ (-q).toNat : Nat) : Int) := h
  have hp : 0 < i * ((2 ^ (-q).toNat : Nat) : Int) := Int.mul_pos hi (by exact_mod_cast p)
  cases s with
  | true =>
    have h2 : signed true (c * 2 ^ q.toNat) = -((c * 2 ^ q.toNat : Nat) : Int) := rfl
    rw [h2] at h'
    generalize (c * 2 ^ q.toNat : Nat) = n at h'
    generalize i * ((2 ^ (-q).toNat : Nat) : Int) = w at h' hp
    omega
  | false =>
    refine ⟨rfl, ?_⟩
    rcases Nat.eq_zero_or_pos c with rfl | hc
    · have h2 : signed false (0 * 2 ^ q.toNat) = ((0 * 2 ^ q.toNat : Nat) : Int) := rfl
      rw [h2, Nat.zero_mul] at h'
      generalize i * ((2 ^ (-q).toNat : Nat) : Int) = w at h' hp
      omega
    · exact hc
theorem own_quot {a b : UInt64} {t u : Nat} (ha : DInt t a) (hb : DInt u b) (ht : 0 < t) (hu : 0 < u) : val64 (Jvm.FP.Core.ddiv a b) = roundRatio b64 false t u 0 := by
  rw [val64_ddiv]
  change Whole (t : Int) (val64 a) at ha
  change Whole (u : Int) (val64 b) at hb
  cases ea : val64 a with
  | nan => rw [ea] at ha; exact ha.elim
  | inf s => rw [ea] at ha; exact ha.elim
  | fin s c q =>
    cases eb : val64 b with
    | nan => rw [eb] at hb; exact hb.elim
    | inf s => rw [eb] at hb; exact hb.elim
    | fin s' d r =>
      rw [ea] at ha; rw [eb] at hb
      obtain ⟨rfl, hc⟩ := own_sgn ha (by omega)
      obtain ⟨rfl, hd⟩ := own_sgn hb (by omega)
      have wa := whole_natAbs ha
      have wb := whole_natAbs hb
      rw [Int.natAbs_natCast] at wa wb
      show (if d = 0 then _ else roundRatio b64 (false != false) c d (q - r)) = _
      rw [if_neg (by omega)]
      refine roundRatio_congr hd hu ?_
      have key : (c * 2 ^ q.toNat) * (u * 2 ^ (-r).toNat) = (t * 2 ^ (-q).toNat) * (d * 2 ^ r.toNat) := by rw [wa, wb]
      obtain ⟨m, e1, e2⟩ : ∃ m : Nat, q.toNat + (-r).toNat = (q - r - 0).toNat + m ∧ (-q).toNat + r.toNat = (0 - (q - r)).toNat + m := ⟨q.toNat + (-r).toNat - (q - r - 0).toNat, by omega, by omega⟩
      have k2 : (c * u * 2 ^ (q - r - 0).toNat) * 2 ^ m = (t * d * 2 ^ (0 - (q - r)).toNat) * 2 ^ m := by
        have l1 : (c * 2 ^ q.toNat) * (u * 2 ^ (-r).toNat) = c * u * 2 ^ (q.toNat + (-r).toNat) := by rw [Nat.pow_add]; ac_rfl
        have l2 : (t * 2 ^ (-q).toNat) * (d * 2 ^ r.toNat) = t * d * 2 ^ ((-q).toNat + r.toNat) := by rw [Nat.pow_add]; ac_rfl
        rw [l1, l2, e1, e2, Nat.pow_add, Nat.pow_add] at key
        rw [Nat.mul_assoc, Nat.mul_assoc (t * d)]
        exact key
      exact Nat.eq_of_mul_eq_mul_right (Nat.two_pow_pos m) k2
abbrev own_U : Nat := 2 ^ (0 - b64.qmin).toNat
theorem own_pw (i j : Nat) (h : i ≤ j) : (2 : Nat) ^ i ≤ 2 ^ j := Nat.pow_le_pow_right (by decide) h
theorem own_pl (i j : Nat) (h : i < j) : ¬ (2 : Nat) ^ j ≤ 2 ^ i := Nat.not_le.mpr (Nat.pow_lt_pow_right (by decide) h)
theorem own_Ue {n : Nat} (h : (0 - b64.qmin).toNat = n) : own_U = 2 ^ n := by subst h; rfl
theorem own_ge {t u : Nat} (hu : 0 < u) {V : Datum} (hV : Jvm.FP.Core.fits b64 V) (h : zmag b64 V * u ≤ t * own_U) : zmag b64 V ≤ zmag b64 (roundRatio b64 false t u 0) := by
  refine zmag_roundRatio_ge good_b64 hu hV (Int.le_refl _) (by decide) ?_
  rw [Int.sub_self]
  show zmag b64 V * 2 ^ 0 * u ≤ _
  rw [Nat.pow_zero, Nat.mul_one]
  exact h
theorem own_le {t u : Nat} (hu : 0 < u) {V : Datum} (hV : Jvm.FP.Core.fits b64 V) (hn : V ≠ .nan) (h : t * own_U ≤ zmag b64 V * u) : zmag b64 (roundRatio b64 false t u 0) ≤ zmag b64 V := by
  refine zmag_roundRatio_le good_b64 hu hV hn (Int.le_refl _) (by decide) ?_
  rw [Int.sub_self]
  show _ ≤ zmag b64 V * 2 ^ 0 * u
  rw [Nat.pow_zero, Nat.mul_one]
  exact h
theorem own_zv {t u : Nat} : zval b64 (roundRatio b64 false t u 0) = zmag b64 (roundRatio b64 false t u 0) := by
  show signed (sgn (roundRatio b64 false t u 0)) (zmag b64 (roundRatio b64 false t u 0)) = _
  rw [sgn_roundRatio]
  rfl
theorem own_dat (x k : Nat) (hx : 0 < x) (hx2 : x < 2 ^ 53) (hk : k ≤ 100) : ∃ V : Datum, Jvm.FP.Core.fits b64 V ∧ V ≠ .nan ∧ zmag b64 V * 2 ^ k = x * own_U := by
  obtain ⟨M, h1, h2⟩ : ∃ M, 2 ^ M ≤ x ∧ x < 2 ^ (M + 1) := ⟨Nat.log2 x, Nat.log2_self_le (by omega), Nat.lt_log2_self⟩
  have hM : M < 53 := (Nat.pow_lt_pow_iff_right (a := 2) (by decide)).mp (Nat.lt_of_le_of_lt h1 hx2)
  have q1 : b64.qmin = -1074 := by decide
  have q2 : b64.qmax = 971 := by decide
  have q3 : b64.tails = 2 ^ 52 := by decide
  have q4 : b64.p = 53 := by decide
  have p1 : 2 ^ M * 2 ^ (52 - M) = 2 ^ 52 := by rw [← Nat.pow_add]; congr 1; omega
  have p2 : 2 ^ (M + 1) * 2 ^ (52 - M) = 2 ^ 53 := by rw [← Nat.pow_add]; congr 1; omega
  have p3 := Nat.two_pow_pos (52 - M)
  refine ⟨.fin false (x * 2 ^ (52 - M)) (-((52 - M : Nat) : Int) - k), ⟨?_, ?_, ?_, Or.inr ?_⟩, Datum.noConfusion, ?_⟩
  · rw [q4, ← p2]; exact Nat.mul_lt_mul_of_pos_right h2 p3
  · rw [q1]; omega
  · rw [q2]; omega
  · rw [q3, ← p1]; exact Nat.mul_le_mul_right _ h1
  · show x * 2 ^ (52 - M) * 2 ^ (-((52 - M : Nat) : Int) - k - b64.qmin).toNat * 2 ^ k = x * 2 ^ (0 - b64.qmin).toNat
    rw [q1, Nat.mul_assoc, Nat.mul_assoc, ← Nat.pow_add, ← Nat.pow_add]
    congr 2
    omega
theorem own_cmp {t u x k : Nat} (hu : 0 < u) (hx : 0 < x) (hx2 : x < 2 ^ 53) (hk : k ≤ 100) :
    (x * u ≤ t * 2 ^ k → x * own_U ≤ zmag b64 (roundRatio b64 false t u 0) * 2 ^ k) ∧ (t * 2 ^ k ≤ x * u → zmag b64 (roundRatio b64 false t u 0) * 2 ^ k ≤ x * own_U) := by
  obtain ⟨V, hV, hn, hz⟩ := own_dat x k hx hx2 hk
  have pk := Nat.two_pow_pos k
  constructor
  · intro h
    have h2 : zmag b64 V ≤ zmag b64 (roundRatio b64 false t u 0) := by
      refine own_ge hu hV (Nat.le_of_mul_le_mul_right ?_ pk)
      have e1 : zmag b64 V * u * 2 ^ k = x * u * own_U := by rw [Nat.mul_right_comm, hz, Nat.mul_right_comm]
      have e2 : t * own_U * 2 ^ k = t * 2 ^ k * own_U := Nat.mul_right_comm _ _ _
      rw [e1, e2]
      exact Nat.mul_le_mul_right _ h
    rw [← hz]
    exact Nat.mul_le_mul_right _ h2
  · intro h
    have h2 : zmag b64 (roundRatio b64 false t u 0) ≤ zmag b64 V := by
      refine own_le hu hV hn (Nat.le_of_mul_le_mul_right ?_ pk)
      have e1 : zmag b64 V * u * 2 ^ k = x * u * own_U := by rw [Nat.mul_right_comm, hz, Nat.mul_right_comm]
      have e2 : t * own_U * 2 ^ k = t * 2 ^ k * own_U := Nat.mul_right_comm _ _ _
      rw [e1, e2]
      exact Nat.mul_le_mul_right _ h
    rw [← hz]
    exact Nat.mul_le_mul_right _ h2
theorem own_kk {u : Nat} (hu : 0 < u) (h : u < 2 ^ 31) : ∃ k, k ≤ 31 ∧ u < 2 ^ k ∧ 2 ^ k ≤ 2 * u := by
  refine ⟨Nat.log2 u + 1, ?_, Nat.lt_log2_self, ?_⟩
  · have h1 := Nat.log2_self_le (n := u) (by omega)
    have := (Nat.pow_lt_pow_iff_right (a := 2) (by decide)).mp (Nat.lt_of_le_of_lt h1 h)
    omega
  · have h1 := Nat.log2_self_le (n := u) (by omega)
    rw [Nat.pow_succ]
    omega
theorem own_avg1 {t u q r : Nat} (hu : 0 < u) (hq : t = q * u + r) (hr : r < u) (h0 : 0 < r) (ht : t < 2 ^ 31) (hut : u ≤ t) :
    q * own_U < zmag b64 (roundRatio b64 false t u 0) ∧ zmag b64 (roundRatio b64 false t u 0) < (q + 1) * own_U := by
  obtain ⟨k, k1, k2, k3⟩ := own_kk hu (by omega)
  have pU : 0 < own_U := Nat.two_pow_pos _
  have b1 : q * 2 ^ k ≤ q * (2 * u) := Nat.mul_le_mul_left _ k3
  have b2 : q * (2 * u) = 2 * (q * u) := by rw [Nat.mul_left_comm]
  have b3 : r * 2 ^ k ≥ 1 * 2 ^ k := Nat.mul_le_mul_right _ h0
  have b4 : (u - r) * 2 ^ k ≥ 1 * 2 ^ k := Nat.mul_le_mul_right _ (by omega)
  have e1 : (q * 2 ^ k + 1) * u = q * u * 2 ^ k + u := by rw [Nat.add_mul, Nat.mul_right_comm, Nat.one_mul]
  have e2 : t * 2 ^ k = q * u * 2 ^ k + r * 2 ^ k := by rw [hq, Nat.add_mul]
  have e3 : ((q + 1) * 2 ^ k - 1) * u = q * u * 2 ^ k + u * 2 ^ k - u := by
    rw [Nat.sub_mul, Nat.add_mul, Nat.add_mul, Nat.mul_right_comm, Nat.one_mul, Nat.one_mul, Nat.mul_comm (2 ^ k) u]
  have e4 : u * 2 ^ k = r * 2 ^ k + (u - r) * 2 ^ k := by rw [← Nat.add_mul]; congr 1; omega
  have e5 : (q + 1) * 2 ^ k = q * 2 ^ k + 2 ^ k := by rw [Nat.add_mul, Nat.one_mul]
  have c1 := (own_cmp (t := t) (u := u) (x := q * 2 ^ k + 1) (k := k) hu (by omega) (by omega) (by omega)).1 (by rw [e1, e2]; omega)
  have c2 := (own_cmp (t := t) (u := u) (x := (q + 1) * 2 ^ k - 1) (k := k) hu (by omega) (by omega) (by omega)).2 (by rw [e3, e2]; omega)
  generalize zmag b64 (roundRatio b64 false t u 0) = z at *
  generalize own_U = U at *
  have pk := Nat.two_pow_pos k
  generalize 2 ^ k = K at *
  constructor
  · refine Nat.lt_of_mul_lt_mul_right (a := K) ?_
    have : q * U * K = q * K * U := Nat.mul_right_comm _ _ _
    rw [Nat.add_mul] at c1
    omega
  · refine Nat.lt_of_mul_lt_mul_right (a := K) ?_
    have : (q + 1) * U * K = (q + 1) * K * U := Nat.mul_right_comm _ _ _
    rw [Nat.sub_mul, Nat.one_mul] at c2
    have p : U ≤ (q + 1) * K * U := Nat.le_mul_of_pos_left _ (Nat.mul_pos (by omega) pk)
    omega
theorem own_ex {t u x k : Nat} (hu : 0 < u) (hx : 0 < x) (hx2 : x < 2 ^ 53) (hk : k ≤ 100) (h : x * u = t * 2 ^ k) : zmag b64 (roundRatio b64 false t u 0) * 2 ^ k = x * own_U :=
  Nat.le_antisymm ((own_cmp hu hx hx2 hk).2 (Nat.le_of_eq h.symm)) ((own_cmp hu hx hx2 hk).1 (Nat.le_of_eq h))
theorem own_avg0 {t u q : Nat} (hu : 0 < u) (hq : t = q * u) (ht : t < 2 ^ 31) (hut : u ≤ t) : zmag b64 (roundRatio b64 false t u 0) = q * own_U := by
  have q0 : 0 < q := by rcases Nat.eq_zero_or_pos q with rfl | h; · omega
                        · exact h
  have q1 : q ≤ q * u := Nat.le_mul_of_pos_right _ hu
  have := own_ex (t := t) (u := u) (x := q) (k := 0) hu q0 (by omega) (by omega) (by rw [hq, Nat.pow_zero, Nat.mul_one])
  rw [Nat.pow_zero, Nat.mul_one] at this
  exact this
theorem own_one {t u : Nat} (hu : 0 < u) (hut : u ≤ t) : own_U ≤ zmag b64 (roundRatio b64 false t u 0) := by
  have := (own_cmp (t := t) (u := u) (x := 1) (k := 0) hu (by omega) (by decide) (by omega)).1 (by rw [Nat.pow_zero]; omega)
  rw [Nat.pow_zero] at this
  omega
theorem own_half0 {t u q r : Nat} (hu : 0 < u) (hq : t = q * u + r) (h : 2 * r = u) (ht : t < 2 ^ 31) : 2 * zmag b64 (roundRatio b64 false t u 0) = (2 * q + 1) * own_U := by
  have q1 : q ≤ q * u := Nat.le_mul_of_pos_right _ hu
  have e1 : (2 * q + 1) * u = 2 * (q * u) + u := by rw [Nat.add_mul, Nat.one_mul, Nat.mul_assoc]
  have := own_ex (t := t) (u := u) (x := 2 * q + 1) (k := 1) hu (by omega) (by omega) (by omega) (by rw [e1, Nat.pow_one]; omega)
  rw [Nat.pow_one] at this
  omega
theorem own_halfL {t u q r : Nat} (hu : 0 < u) (hq : t = q * u + r) (h : 2 * r < u) (ht : t < 2 ^ 31) (hut : u ≤ t) : 2 * zmag b64 (roundRatio b64 false t u 0) < (2 * q + 1) * own_U := by
  obtain ⟨k, k1, k2, k3⟩ := own_kk hu (by omega)
  have pU : 0 < own_U := Nat.two_pow_pos _
  have b1 : q * 2 ^ k ≤ q * (2 * u) := Nat.mul_le_mul_left _ k3
  have b2 : q * (2 * u) = 2 * (q * u) := by rw [Nat.mul_left_comm]
  have b4 : (u - 2 * r) * 2 ^ k ≥ 1 * 2 ^ k := Nat.mul_le_mul_right _ (by omega)
  have e0 : (2 * q + 1) * 2 ^ k = 2 * (q * 2 ^ k) + 2 ^ k := by rw [Nat.add_mul, Nat.one_mul, Nat.mul_assoc]
  have e3 : ((2 * q + 1) * 2 ^ k - 1) * u = 2 * (q * u * 2 ^ k) + u * 2 ^ k - u := by
    rw [Nat.sub_mul, e0, Nat.add_mul, Nat.one_mul, Nat.mul_assoc, Nat.mul_right_comm, Nat.mul_comm (2 ^ k) u]
  have e2 : t * 2 ^ (k + 1) = 2 * (q * u * 2 ^ k) + 2 * r * 2 ^ k := by rw [hq, Nat.pow_succ, Nat.add_mul, Nat.mul_comm (2 ^ k) 2, Nat.mul_left_comm, Nat.mul_left_comm r, Nat.mul_assoc 2 r]
  have e4 : u * 2 ^ k = 2 * r * 2 ^ k + (u - 2 * r) * 2 ^ k := by rw [← Nat.add_mul]; congr 1; omega
  have c2 := (own_cmp (t := t) (u := u) (x := (2 * q + 1) * 2 ^ k - 1) (k := k + 1) hu (by omega) (by omega) (by omega)).2 (by rw [e3, e2]; omega)
  rw [Nat.pow_succ] at c2
  generalize zmag b64 (roundRatio b64 false t u 0) = z at *
  generalize own_U = U at *
  have pk := Nat.two_pow_pos k
  generalize 2 ^ k = K at *
  refine Nat.lt_of_mul_lt_mul_right (a := K) ?_
  have f1 : (2 * q + 1) * U * K = (2 * q + 1) * K * U := Nat.mul_right_comm _ _ _
  have f2 : z * (K * 2) = 2 * z * K := by rw [Nat.mul_comm K 2, Nat.mul_left_comm, Nat.mul_assoc]
  rw [Nat.sub_mul, Nat.one_mul] at c2
  have p : U ≤ (2 * q + 1) * K * U := Nat.le_mul_of_pos_left _ (Nat.mul_pos (by omega) pk)
  omega
theorem own_halfG {t u q r : Nat} (hu : 0 < u) (hq : t = q * u + r) (h : u < 2 * r) (hr : r < u) (ht : t < 2 ^ 31) (hut : u ≤ t) : (2 * q + 1) * own_U < 2 * zmag b64 (roundRatio b64 false t u 0) := by
  obtain ⟨k, k1, k2, k3⟩ := own_kk hu (by omega)
  have pU : 0 < own_U := Nat.two_pow_pos _
  have b1 : q * 2 ^ k ≤ q * (2 * u) := Nat.mul_le_mul_left _ k3
  have b2 : q * (2 * u) = 2 * (q * u) := by rw [Nat.mul_left_comm]
  have b4 : (2 * r - u) * 2 ^ k ≥ 1 * 2 ^ k := Nat.mul_le_mul_right _ (by omega)
  have e0 : (2 * q + 1) * 2 ^ k = 2 * (q * 2 ^ k) + 2 ^ k := by rw [Nat.add_mul, Nat.one_mul, Nat.mul_assoc]
  have e3 : ((2 * q + 1) * 2 ^ k + 1) * u = 2 * (q * u * 2 ^ k) + u * 2 ^ k + u := by
    rw [Nat.add_mul, e0, Nat.add_mul, Nat.one_mul, Nat.mul_assoc, Nat.mul_right_comm, Nat.mul_comm (2 ^ k) u]
  have e2 : t * 2 ^ (k + 1) = 2 * (q * u * 2 ^ k) + 2 * r * 2 ^ k := by rw [hq, Nat.pow_succ, Nat.add_mul, Nat.mul_comm (2 ^ k) 2, Nat.mul_left_comm, Nat.mul_left_comm r, Nat.mul_assoc 2 r]
  have e4 : 2 * r * 2 ^ k = u * 2 ^ k + (2 * r - u) * 2 ^ k := by rw [← Nat.add_mul]; congr 1; omega
  have c2 := (own_cmp (t := t) (u := u) (x := (2 * q + 1) * 2 ^ k + 1) (k := k + 1) hu (by omega) (by omega) (by omega)).1 (by rw [e3, e2]; omega)
  rw [Nat.pow_succ] at c2
  generalize zmag b64 (roundRatio b64 false t u 0) = z at *
  generalize own_U = U at *
  have pk := Nat.two_pow_pos k
  generalize 2 ^ k = K at *
  refine Nat.lt_of_mul_lt_mul_right (a := K) ?_
  have f1 : (2 * q + 1) * U * K = (2 * q + 1) * K * U := Nat.mul_right_comm _ _ _
  have f2 : z * (K * 2) = 2 * z * K := by rw [Nat.mul_comm K 2, Nat.mul_left_comm, Nat.mul_assoc]
  rw [Nat.add_mul, Nat.one_mul] at c2
  omega
theorem own_two : val64 4611686018427387904 = .fin false (2 ^ 52) (-51) := by decide +kernel
theorem own_dbl {c : Nat} {q : Int} (hf : Jvm.FP.Core.fits b64 (.fin false c q)) (h1 : own_U ≤ zmag b64 (.fin false c q)) (h2 : zmag b64 (.fin false c q) ≤ 2 ^ 31 * own_U) :
    round b64 (exactProduct (.fin false c q) (.fin false (2 ^ 52) (-51))) = .fin false c (q + 1) ∧ zmag b64 (.fin false c (q + 1)) = 2 * zmag b64 (.fin false c q) := by
  have q1 : b64.qmin = -1074 := by decide
  have q2 : b64.qmax = 971 := by decide
  have q3 : b64.tails = 2 ^ 52 := by decide
  have q4 : b64.p = 53 := by decide
  obtain ⟨f1, f2, f3, f4⟩ := hf
  have z0 : zmag b64 (.fin false c q) = c * 2 ^ (q - b64.qmin).toNat := rfl
  have hU : own_U = 2 ^ 1074 := own_Ue (n := 1074) (by decide)
  rw [q1] at f2 f4 z0
  rw [q4] at f1
  have hc : 2 ^ 52 ≤ c := by
    rcases f4 with rfl | h
    · exfalso
      rw [z0, hU] at h1
      have := own_pw 53 1074 (by decide)
      have e : ((-1074 : Int) - -1074).toNat = 0 := rfl
      rw [e, Nat.pow_zero, Nat.mul_one] at h1
      exact absurd (Nat.lt_of_lt_of_le f1 (Nat.le_trans this h1)) (Nat.lt_irrefl _)
    · rw [q3] at h; exact h
  have hq : q < 900 := by
    rcases Int.lt_or_le q 900 with h | h
    · exact h
    · exfalso
      rw [z0, hU] at h2
      have a1 : 2 ^ 52 * 2 ^ 1974 ≤ c * 2 ^ (q - -1074).toNat := Nat.mul_le_mul hc (Nat.pow_le_pow_right (by decide) (by omega))
      have a2 : (2 : Nat) ^ 31 * 2 ^ 1074 < 2 ^ 52 * 2 ^ 1974 := by rw [← Nat.pow_add, ← Nat.pow_add]; exact Nat.pow_lt_pow_right (by decide) (by decide)
      exact absurd (Nat.lt_of_lt_of_le a2 (Nat.le_trans a1 h2)) (Nat.lt_irrefl _)
  refine ⟨?_, ?_⟩
  · show roundRatio b64 (false != false) (c * 2 ^ 52) 1 (q + -51) = _
    refine roundRatio_exact good_b64 (by decide) ⟨by rw [q4]; exact f1, by rw [q1]; omega, by rw [q2]; omega, Or.inr (by rw [q3]; exact hc)⟩ ?_
    rw [show (q + -51 - (q + 1)).toNat = 0 by omega, show (q + 1 - (q + -51)).toNat = 52 by omega]
    rw [Nat.pow_zero, Nat.mul_one, Nat.mul_one]
  · show c * 2 ^ (q + 1 - b64.qmin).toNat = _
    rw [z0, q1, show (q + 1 - -1074).toNat = (q - -1074).toNat + 1 by omega, Nat.pow_succ]
    rw [Nat.mul_comm (2 ^ (q - -1074).toNat) 2, Nat.mul_left_comm]
theorem own_ldz {a : UInt64} {i : Nat} (h : DInt i a) : val64 a ≠ .nan ∧ zmag b64 (val64 a) = i * own_U ∧ (0 < i → zval b64 (val64 a) = i * own_U) := by
  have hf := val64_fits a
  change Whole (i : Int) (val64 a) at h
  cases ea : val64 a with
  | nan => rw [ea] at h; exact h.elim
  | inf s => rw [ea] at h; exact h.elim
  | fin s c q =>
    rw [ea] at h hf
    have q1 : b64.qmin = -1074 := by decide
    have f2 : b64.qmin ≤ q := hf.2.1
    rw [q1] at f2
    have wa := whole_natAbs h
    rw [Int.natAbs_natCast] at wa
    have hz : zmag b64 (.fin s c q) = i * own_U := by
      show c * 2 ^ (q - b64.qmin).toNat = i * 2 ^ (0 - b64.qmin).toNat
      rw [q1]
      have k : c * 2 ^ (q - -1074).toNat * 2 ^ (-q).toNat = i * 2 ^ (0 - (-1074 : Int)).toNat * 2 ^ (-q).toNat := by
        rw [Nat.mul_assoc, ← Nat.pow_add, show (q - -1074).toNat + (-q).toNat = q.toNat + (0 - (-1074 : Int)).toNat by omega, Nat.pow_add, ← Nat.mul_assoc, wa, Nat.mul_right_comm]
      exact Nat.eq_of_mul_eq_mul_right (Nat.two_pow_pos _) k
    refine ⟨Datum.noConfusion, hz, fun hi => ?_⟩
    obtain ⟨rfl, -⟩ := own_sgn h (by omega)
    show signed false (zmag b64 (.fin false c q)) = _
    rw [hz]
    rfl
end OwnFl

section OwnFl2
open Jvm.FP.Core
/-- the quotient's value, all that the law needs -/
theorem own_bnd {t u : Nat} (hu : 0 < u) (ht : t < 2 ^ 31) (h0 : 0 < t) : zmag b64 (roundRatio b64 false t u 0) ≤ 2 ^ 31 * own_U := by
  have h1 := (own_cmp (t := t) (u := u) (x := t) (k := 0) hu h0 (by omega) (by omega)).2 (by rw [Nat.pow_zero, Nat.mul_one]; exact Nat.le_mul_of_pos_right _ hu)
  rw [Nat.pow_zero, Nat.mul_one] at h1
  exact Nat.le_trans h1 (Nat.mul_le_mul_right _ (Nat.le_of_lt ht))
def OwnAvg (t u : Nat) (a : UInt64) : Prop := (val64 a ≠ .nan) ∧ (zval b64 (val64 a) = zmag b64 (roundRatio b64 false t u 0)) ∧ (val64 (Jvm.FP.Core.dmul a 4611686018427387904) ≠ .nan) ∧ (zval b64 (val64 (Jvm.FP.Core.dmul a 4611686018427387904)) = ((2 * zmag b64 (roundRatio b64 false t u 0) : Nat) : Int))
theorem OwnAvg.nn {t u : Nat} {a : UInt64} (N_ : OwnAvg t u a) : val64 a ≠ .nan := N_.1
theorem OwnAvg.zv {t u : Nat} {a : UInt64} (N_ : OwnAvg t u a) : zval b64 (val64 a) = zmag b64 (roundRatio b64 false t u 0) := N_.2.1
theorem OwnAvg.nm {t u : Nat} {a : UInt64} (N_ : OwnAvg t u a) : val64 (Jvm.FP.Core.dmul a 4611686018427387904) ≠ .nan := N_.2.2.1
theorem OwnAvg.zm {t u : Nat} {a : UInt64} (N_ : OwnAvg t u a) : zval b64 (val64 (Jvm.FP.Core.dmul a 4611686018427387904)) = ((2 * zmag b64 (roundRatio b64 false t u 0) : Nat) : Int) := N_.2.2.2
theorem own_avg {a b : UInt64} {t u : Nat} (ha : DInt t a) (hb : DInt u b) (hu : 0 < u) (hut : u ≤ t) (ht : t < 2 ^ 31) : OwnAvg t u (Jvm.FP.Core.ddiv a b) := by
  have hq := own_quot ha hb (by omega) hu
  have z1 := own_one hu hut
  have z2 := own_bnd hu ht (by omega)
  have hf : Jvm.FP.Core.fits b64 (roundRatio b64 false t u 0) := by rw [← hq]; exact val64_fits _
  have hd : ∃ c q, val64 (Jvm.FP.Core.dmul (Jvm.FP.Core.ddiv a b) 4611686018427387904) = .fin false c q ∧ zmag b64 (.fin false c q) = 2 * zmag b64 (roundRatio b64 false t u 0) := by
    rw [val64_dmul, hq, own_two]
    rcases roundRatio_cases b64 false t u 0 with ⟨c, q, h⟩ | h
    · rw [h] at z1 z2 hf ⊢
      obtain ⟨d1, d2⟩ := own_dbl hf z1 z2
      exact ⟨c, q + 1, d1, d2⟩
    · exfalso
      rw [h] at z2
      have e0 : zmag b64 (.inf false) = b64.tails * 2 ^ (b64.exps - 2) := rfl
      have q3 : b64.tails = 2 ^ 52 := by decide
      have q5 : b64.exps - 2 = 2046 := by decide
      have hU : own_U = 2 ^ 1074 := own_Ue (n := 1074) (by decide)
      rw [e0, q3, q5, hU, ← Nat.pow_add, ← Nat.pow_add] at z2
      exact own_pl (31 + 1074) (52 + 2046) (by decide) z2
  obtain ⟨c, q, h1, h2⟩ := hd
  refine ⟨?_, ?_, ?_, ?_⟩
  · rw [hq]; exact roundRatio_ne_nan _ _ _ _ _
  · rw [hq]; exact own_zv
  · rw [h1]; exact Datum.noConfusion
  · rw [h1]; show signed false (zmag b64 (.fin false c q)) = _; rw [h2]; rfl
theorem own_zi {a : UInt64} {i : Nat} (h : DInt i a) (hi : 0 < i) : val64 a ≠ .nan ∧ zval b64 (val64 a) = ((i * own_U : Nat) : Int) := by
  obtain ⟨h1, -, h3⟩ := own_ldz h
  exact ⟨h1, by rw [h3 hi]; rfl⟩
variable {t u q r : Nat} {a x : UInt64}
theorem own_c0 (A : OwnAvg t u a) (hu : 0 < u) (hut : u ≤ t) (ht : t < 2 ^ 31) (hq : t = q * u + r) (h : r = 0) (hx : DInt q x) : Jvm.FP.Core.dcmp a x = some .eq := by
  subst h
  have q0 : 0 < q := by rcases Nat.eq_zero_or_pos q with rfl | h; · omega
                        · exact h
  obtain ⟨n, z⟩ := own_zi hx q0
  refine dcmp_eq.mpr ⟨A.nn, n, ?_⟩
  rw [A.zv, z, own_avg0 hu hq ht hut]
theorem own_q0 (hut : u ≤ t) (hr : r < u) (hq : t = q * u + r) : 0 < q := by
  rcases Nat.eq_zero_or_pos q with rfl | h
  · omega
  · exact h
theorem own_c1 (A : OwnAvg t u a) (hu : 0 < u) (hut : u ≤ t) (ht : t < 2 ^ 31) (hq : t = q * u + r) (hr : r < u) (h : 0 < r) (hx : DInt q x) : Jvm.FP.Core.dcmp x a = some .lt := by
  obtain ⟨n, z⟩ := own_zi hx (own_q0 hut hr hq)
  refine dcmp_lt.mpr ⟨n, A.nn, ?_⟩
  rw [A.zv, z]
  exact_mod_cast (own_avg1 hu hq hr h ht hut).1
theorem own_c2 (A : OwnAvg t u a) (hu : 0 < u) (hut : u ≤ t) (ht : t < 2 ^ 31) (hq : t = q * u + r) (hr : r < u) (h : 0 < r) (hx : DInt ((q + 1 : Nat) : Int) x) : Jvm.FP.Core.dcmp a x = some .lt := by
  obtain ⟨n, z⟩ := own_zi hx (by omega)
  refine dcmp_lt.mpr ⟨A.nn, n, ?_⟩
  rw [A.zv, z]
  exact_mod_cast (own_avg1 hu hq hr h ht hut).2
theorem own_h0 (A : OwnAvg t u a) (hu : 0 < u) (ht : t < 2 ^ 31) (hq : t = q * u + r) (h : 2 * r = u) (hx : DInt ((2 * q + 1 : Nat) : Int) x) : Jvm.FP.Core.dcmp (Jvm.FP.Core.dmul a 4611686018427387904) x = some .eq := by
  obtain ⟨n, z⟩ := own_zi hx (by omega)
  refine dcmp_eq.mpr ⟨A.nm, n, ?_⟩
  rw [A.zm, z, own_half0 hu hq h ht]
theorem own_h1 (A : OwnAvg t u a) (hu : 0 < u) (hut : u ≤ t) (ht : t < 2 ^ 31) (hq : t = q * u + r) (h : 2 * r < u) (hx : DInt ((2 * q + 1 : Nat) : Int) x) : Jvm.FP.Core.dcmp (Jvm.FP.Core.dmul a 4611686018427387904) x = some .lt := by
  obtain ⟨n, z⟩ := own_zi hx (by omega)
  refine dcmp_lt.mpr ⟨A.nm, n, ?_⟩
  rw [A.zm, z]
  exact_mod_cast own_halfL hu hq h ht hut
theorem own_h2 (A : OwnAvg t u a) (hu : 0 < u) (hut : u ≤ t) (ht : t < 2 ^ 31) (hq : t = q * u + r) (hr : r < u) (h : u < 2 * r) (hx : DInt ((2 * q + 1 : Nat) : Int) x) : Jvm.FP.Core.dcmp (Jvm.FP.Core.dmul a 4611686018427387904) x = some .gt := by
  obtain ⟨n, z⟩ := own_zi hx (by omega)
  refine dcmp_gt.mpr ⟨A.nm, n, ?_⟩
  rw [A.zm, z]
  exact_mod_cast own_halfG hu hq h hr ht hut
theorem own_d1 : DInt ((1 : Nat) : Int) Jvm.FP.Core.dconst1 := by
  show Whole _ (val64 Jvm.FP.Core.dconst1)
  rw [val64_dconst1]
  show signed false (2 ^ 52 * 2 ^ (-52 : Int).toNat) = ((1 : Nat) : Int) * ((2 ^ (-(-52 : Int)).toNat : Nat) : Int)
  decide +kernel
theorem own_c3 (A : OwnAvg t u a) (hu : 0 < u) (hut : u ≤ t) : Jvm.FP.Core.dcmp a Jvm.FP.Core.dconst1 = some .gt ∨ Jvm.FP.Core.dcmp a Jvm.FP.Core.dconst1 = some .eq := by
  obtain ⟨n, z⟩ := own_zi own_d1 (by omega)
  refine dcmp_ge.mpr ⟨A.nn, n, ?_⟩
  rw [A.zv, z, Nat.one_mul]
  exact_mod_cast own_one hu hut
end OwnFl2

section OwnFl3
open Jvm.FP.Core
def OwnNat (t u : Int32) (T U Q R : Nat) : Prop := (t.toInt = T) ∧ (u.toInt = U) ∧ ((t / u).toInt64.toInt = Q) ∧ ((t % u).toInt64.toInt = R) ∧ (T = Q * U + R) ∧ (R < U) ∧ (U ≤ T) ∧ (T < 2 ^ 31) ∧ (0 < U)
theorem OwnNat.ft {t u : Int32} {T U Q R : Nat} (N_ : OwnNat t u T U Q R) : t.toInt = T := N_.1
theorem OwnNat.fu {t u : Int32} {T U Q R : Nat} (N_ : OwnNat t u T U Q R) : u.toInt = U := N_.2.1
theorem OwnNat.fq {t u : Int32} {T U Q R : Nat} (N_ : OwnNat t u T U Q R) : (t / u).toInt64.toInt = Q := N_.2.2.1
theorem OwnNat.fr {t u : Int32} {T U Q R : Nat} (N_ : OwnNat t u T U Q R) : (t % u).toInt64.toInt = R := N_.2.2.2.1
theorem OwnNat.fh {t u : Int32} {T U Q R : Nat} (N_ : OwnNat t u T U Q R) : T = Q * U + R := N_.2.2.2.2.1
theorem OwnNat.flt {t u : Int32} {T U Q R : Nat} (N_ : OwnNat t u T U Q R) : R < U := N_.2.2.2.2.2.1
theorem OwnNat.fle {t u : Int32} {T U Q R : Nat} (N_ : OwnNat t u T U Q R) : U ≤ T := N_.2.2.2.2.2.2.1
theorem OwnNat.fb {t u : Int32} {T U Q R : Nat} (N_ : OwnNat t u T U Q R) : T < 2 ^ 31 := N_.2.2.2.2.2.2.2.1
theorem OwnNat.fpos {t u : Int32} {T U Q R : Nat} (N_ : OwnNat t u T U Q R) : 0 < U := N_.2.2.2.2.2.2.2.2
theorem own_nat (t u : Int32) (hu : 0 < u.toInt) (hut : u.toInt ≤ t.toInt) : ∃ T U Q R : Nat, OwnNat t u T U Q R := by
  have bt := t.toInt_lt
  obtain ⟨T, hT⟩ : ∃ T : Nat, t.toInt = T := ⟨t.toInt.toNat, by omega⟩
  obtain ⟨U, hU⟩ : ∃ U : Nat, u.toInt = U := ⟨u.toInt.toNat, by omega⟩
  have p : 0 < U := by omega
  have d0 : t.toInt.tdiv u.toInt = ((T / U : Nat) : Int) := by rw [hT, hU]; rfl
  have m0 : t.toInt.tmod u.toInt = ((T % U : Nat) : Int) := by rw [hT, hU]; rfl
  have dl : T / U ≤ T := Nat.div_le_self _ _
  refine ⟨T, U, T / U, T % U, hT, hU, ?_, ?_, ?_, Nat.mod_lt _ p, by omega, by omega, p⟩
  · rw [Int32.toInt_toInt64, Int32.toInt_div, d0]
    generalize T / U = w at dl ⊢
    exact Int.bmod_eq_of_le_mul_two (by omega) (by omega)
  · rw [Int32.toInt_toInt64, Int32.toInt_mod, m0]
  · rw [Nat.mul_comm]; exact (Nat.div_add_mod T U).symm
section
variable {t u : Int32} {T U Q R : Nat}
theorem OwnNat.qb (N : OwnNat t u T U Q R) : Q < 2 ^ 31 := by
  have := N.fb
  have h1 : Q ≤ Q * U := Nat.le_mul_of_pos_right _ N.fpos
  have := N.fh
  omega
theorem OwnNat.q1 (N : OwnNat t u T U Q R) : ((t / u).toInt64 + 1).toInt = ((Q + 1 : Nat) : Int) := by
  have := N.qb
  rw [Int64.toInt_add, N.fq]
  exact Int.bmod_eq_of_le_mul_two (by show _ ≤ ((Q : Int) + 1) * 2; omega) (by show ((Q : Int) + 1) * 2 < _; omega)
theorem OwnNat.q2 (N : OwnNat t u T U Q R) : ((2 : Int64) * (t / u).toInt64 + 1).toInt = ((2 * Q + 1 : Nat) : Int) := by
  have := N.qb
  have e : ((2 : Int64) * (t / u).toInt64).toInt = ((2 * Q : Nat) : Int) := by
    rw [Int64.toInt_mul, N.fq]
    exact Int.bmod_eq_of_le_mul_two (by show _ ≤ ((2 : Int) * Q) * 2; omega) (by show ((2 : Int) * Q) * 2 < _; omega)
  rw [Int64.toInt_add, e]
  exact Int.bmod_eq_of_le_mul_two (by show _ ≤ (((2 * Q : Nat) : Int) + 1) * 2; omega) (by show (((2 * Q : Nat) : Int) + 1) * 2 < _; omega)
theorem OwnNat.r2 (N : OwnNat t u T U Q R) : ((2 : Int64) * (t % u).toInt64).toInt = ((2 * R : Nat) : Int) := by
  have := N.fb
  have := N.flt
  have := N.fle
  rw [Int64.toInt_mul, N.fr]
  exact Int.bmod_eq_of_le_mul_two (by show _ ≤ ((2 : Int) * R) * 2; omega) (by show ((2 : Int) * R) * 2 < _; omega)
theorem OwnNat.u64 (N : OwnNat t u T U Q R) : u.toInt64.toInt = (U : Int) := by rw [Int32.toInt_toInt64, N.fu]
theorem OwnNat.avg (N : OwnNat t u T U Q R) : OwnAvg T U (FP.ddiv (FP.i2d t) (FP.i2d u)) := by
  have h1 : DInt T (FP.i2d t) := by have := i2d_int t; rw [N.ft] at this; exact this
  have h2 : DInt U (FP.i2d u) := by have := i2d_int u; rw [N.fu] at this; exact this
  exact own_avg h1 h2 N.fpos N.fle N.fb
theorem own_li {z : Int64} {i : Nat} (h : z.toInt = i) (hi : i ≤ 2 ^ 53) : DInt i (FP.l2d z) := by
  have := l2d_int (a := z) (by omega)
  rw [h] at this
  exact this
end
abbrev own_ad (t u : Int32) : UInt64 := FP.ddiv (FP.i2d t) (FP.i2d u)
variable {t u : Int32}
theorem own_f0 (hu : 0 < u.toInt) (hut : u.toInt ≤ t.toInt) (h : (t % u).toInt64 = (0 : Int64)) : FP.dcmp (own_ad t u) (FP.l2d (t / u).toInt64) = some .eq := by
  obtain ⟨T, U, Q, R, N⟩ := own_nat t u hu hut
  have := N.qb
  have e := N.fr
  rw [h] at e
  have e0 : (0 : Int64).toInt = 0 := rfl
  exact own_c0 N.avg N.fpos N.fle N.fb N.fh (by omega) (own_li N.fq (by omega))
theorem own_r0 (hu : 0 < u.toInt) (hut : u.toInt ≤ t.toInt) (h : ¬ (t % u).toInt64 = (0 : Int64)) : 0 < (t % u).toInt64.toInt := by
  obtain ⟨T, U, Q, R, N⟩ := own_nat t u hu hut
  rw [← Int64.toInt_inj] at h
  have e := N.fr
  have e0 : (0 : Int64).toInt = 0 := rfl
  omega
theorem own_f1 (hu : 0 < u.toInt) (hut : u.toInt ≤ t.toInt) (h : ¬ (t % u).toInt64 = (0 : Int64)) : FP.dcmp (FP.l2d (t / u).toInt64) (own_ad t u) = some .lt := by
  have h' := own_r0 hu hut h
  obtain ⟨T, U, Q, R, N⟩ := own_nat t u hu hut
  have := N.qb
  have e := N.fr
  exact own_c1 N.avg N.fpos N.fle N.fb N.fh N.flt (by omega) (own_li N.fq (by omega))
theorem own_f2 (hu : 0 < u.toInt) (hut : u.toInt ≤ t.toInt) (h : ¬ (t % u).toInt64 = (0 : Int64)) : FP.dcmp (own_ad t u) (FP.l2d ((t / u).toInt64 + 1)) = some .lt := by
  have h' := own_r0 hu hut h
  obtain ⟨T, U, Q, R, N⟩ := own_nat t u hu hut
  have := N.qb
  have e := N.fr
  exact own_c2 N.avg N.fpos N.fle N.fb N.fh N.flt (by omega) (own_li N.q1 (by omega))
theorem own_g1 (hu : 0 < u.toInt) (hut : u.toInt ≤ t.toInt) (h : (2 : Int64) * (t % u).toInt64 < u.toInt64) : FP.dcmp (FP.dmul (own_ad t u) 4611686018427387904) (FP.l2d ((2 : Int64) * (t / u).toInt64 + 1)) = some .lt := by
  obtain ⟨T, U, Q, R, N⟩ := own_nat t u hu hut
  have := N.qb
  rw [Int64.lt_iff_toInt_lt, N.r2, N.u64] at h
  exact own_h1 N.avg N.fpos N.fle N.fb N.fh (by omega) (own_li N.q2 (by omega))
theorem own_g0 (hu : 0 < u.toInt) (hut : u.toInt ≤ t.toInt) (h : (2 : Int64) * (t % u).toInt64 = u.toInt64) : FP.dcmp (FP.dmul (own_ad t u) 4611686018427387904) (FP.l2d ((2 : Int64) * (t / u).toInt64 + 1)) = some .eq := by
  obtain ⟨T, U, Q, R, N⟩ := own_nat t u hu hut
  have := N.qb
  rw [← Int64.toInt_inj, N.r2, N.u64] at h
  exact own_h0 N.avg N.fpos N.fb N.fh (by omega) (own_li N.q2 (by omega))
theorem own_g2 (hu : 0 < u.toInt) (hut : u.toInt ≤ t.toInt) (h : ¬ (2 : Int64) * (t % u).toInt64 < u.toInt64) (h' : ¬ (2 : Int64) * (t % u).toInt64 = u.toInt64) : FP.dcmp (FP.dmul (own_ad t u) 4611686018427387904) (FP.l2d ((2 : Int64) * (t / u).toInt64 + 1)) = some .gt := by
  obtain ⟨T, U, Q, R, N⟩ := own_nat t u hu hut
  have := N.qb
  rw [Int64.lt_iff_toInt_lt, N.r2, N.u64] at h
  rw [← Int64.toInt_inj, N.r2, N.u64] at h'
  exact own_h2 N.avg N.fpos N.fle N.fb N.fh N.flt (by omega) (own_li N.q2 (by omega))
theorem own_f3 (hu : 0 < u.toInt) (hut : u.toInt ≤ t.toInt) : FP.dcmp (own_ad t u) FP.dconst1 = some .gt ∨ FP.dcmp (own_ad t u) FP.dconst1 = some .eq := by
  obtain ⟨T, U, Q, R, N⟩ := own_nat t u hu hut
  exact own_c3 N.avg N.fpos N.fle
theorem own_nm (hu : 0 < u.toInt) (hut : u.toInt ≤ t.toInt) : val64 (FP.dmul (own_ad t u) 4611686018427387904) ≠ .nan := by
  obtain ⟨T, U, Q, R, N⟩ := own_nat t u hu hut
  exact N.avg.nm
theorem own_nd (hu : ¬ u = 0) : val64 (FP.ddiv (FP.i2d t) (FP.i2d u)) ≠ .nan := by
  have a1 : Whole t.toInt (val64 (FP.i2d t)) := i2d_int t
  have a2 : Whole u.toInt (val64 (FP.i2d u)) := i2d_int u
  have e : val64 (FP.ddiv (FP.i2d t) (FP.i2d u)) = quotient b64 (val64 (FP.i2d t)) (val64 (FP.i2d u)) := val64_ddiv _ _
  rw [e]
  cases e1 : val64 (FP.i2d t) with
  | nan => rw [e1] at a1; exact a1.elim
  | inf s => rw [e1] at a1; exact a1.elim
  | fin s c q =>
    cases e2 : val64 (FP.i2d u) with
    | nan => rw [e2] at a2; exact a2.elim
    | inf s => rw [e2] at a2; exact a2.elim
    | fin s' d r =>
      rw [e2] at a2
      show (if d = 0 then _ else roundRatio b64 (s != s') c d (q - r)) ≠ _
      rw [if_neg ?_]
      · exact roundRatio_ne_nan _ _ _ _ _
      · rintro rfl
        have w := whole_natAbs a2
        rw [Nat.zero_mul] at w
        have : u.toInt.natAbs = 0 := by
          rcases Nat.mul_eq_zero.mp w.symm with h | h
          · exact h
          · exact absurd h (Nat.ne_of_gt (Nat.two_pow_pos _))
        exact hu (Int32.toInt_inj.mp (by show u.toInt = 0; omega))
end OwnFl3

def own_min (p : Int32) (q : Int32)  : Int32 := (if q < p then q else p)
theorem d1_0 : decode jdk_29_method_69_code 0 = .ok (.iload_n 0, 1) := by decide +kernel
theorem d1_1 : decode jdk_29_method_69_code 1 = .ok (.iload_n 1, 1) := by decide +kernel
theorem d1_2 : decode jdk_29_method_69_code 2 = .ok (.if_icmp .gt 7, 3) := by decide +kernel
theorem d1_5 : decode jdk_29_method_69_code 5 = .ok (.iload_n 0, 1) := by decide +kernel
theorem d1_6 : decode jdk_29_method_69_code 6 = .ok (.goto 4, 3) := by decide +kernel
theorem d1_9 : decode jdk_29_method_69_code 9 = .ok (.iload_n 1, 1) := by decide +kernel
theorem d1_10 : decode jdk_29_method_69_code 10 = .ok (.ireturn, 1) := by decide +kernel
theorem ef_rm1 (m_ : MethodId) (p : Int32) (q : Int32) : entryFrame m_ #[(.int p), (.int q)] 2 = mkF m_ 0 #[.val (.int p), .val (.int q)] [] := by first | (simp [entryFrame, mkF, argsToLocals, Value.category]; done) | rfl
def Q1 (Z : State) (p : Int32) (q : Int32)  (h0 : Heap) (n0 : Nat) (v : Option Value) (h : Heap) (L : List Loc) : Prop := v = some (.int (own_min p q)) ∧ Fr n0 L ∧ h = h0
set_option maxRecDepth 65536 in
set_option maxHeartbeats 40000000 in
theorem rm1 (l : Launch) (Z : State) (a0 : Array Value) (hw : ∀ d ∈ tables_1, d.before a0 Z = true) (ws : List Jvm.Cond) (p : Int32) (q : Int32)  (h0 : Heap) (n0 : Nat) (Z0 : n0 ≤ h0.size)  :
    MetFree l (⟨"java/lang/Math", "min", "(II)I"⟩ : MethodName) (head1 (Jvm.Cond.code (⟨"java/lang/Math", "min", "(II)I"⟩ : MethodName) jdk_29_method_69_code 2 (some .int) :: ws) ({ frames := 0, cells := 0, slots := 0, locals := 0 } : Room)) (fun a_ U_ => a_ = #[(.int p), (.int q)] ∧ Z.Warmed39 U_.vm ∧ U_.heap = h0) (fun _ _ _ _ _ => True) (fun _ U_ o_ V_ => ∃ v_ L_, o_ = .returned v_ ∧ Q1 Z p q h0 n0 v_ V_.heap L_ ∧ FrameEnd U_ o_ V_ L_ ({ frames := 0, cells := 0, slots := 0, locals := 0 } : Room).cells ({ frames := 0, cells := 0, slots := 0, locals := 0 } : Room).slots) := by
  refine metOf (Q := Q1 Z p q h0 n0) (Jvm.Free.JP.mathPlain rfl (by decide +kernel)) ?_
  intro p_ e_ s_ m_ below meth c_ s₁ X0 hx hby hml hret hlk hZ hown hnm e0
  rw [ef_rm1]
  have N0 := Fr.nil n0
  show Go p_ e_ below _ _ s₁ (mkF m_ 0 #[.val (.int p), .val (.int q)] [])
  refine Go.iloadN X0 hx (hb hby d1_0) rfl ?_
  refine Go.iloadN X0 hx (hb hby d1_1) rfl ?_
  by_cases hc2_1 : q < p
  · skip
    refine Go.icmpYes X0 hx (pc' := 9) (hb hby d1_2) (tlt hc2_1).2.2.1 (by decide) (by decide) ?_
    show Go p_ e_ below _ _ s₁ (mkF m_ 9 #[.val (.int p), .val (.int q)] [])
    refine Go.iloadN X0 hx (hb hby d1_9) rfl ?_
    refine Go.retI X0 hx hret hlk (hb hby d1_10) (by decide) (by decide) ?_
    exact ⟨by unfold own_min; rw [if_pos hc2_1] <;> rfl, N0, e0⟩
  · skip
    refine Go.icmpNo X0 hx (hb hby d1_2) (flt hc2_1).2.2.1 ?_
    show Go p_ e_ below _ _ s₁ (mkF m_ 5 #[.val (.int p), .val (.int q)] [])
    refine Go.iloadN X0 hx (hb hby d1_5) rfl ?_
    refine Go.goto X0 hx (pc' := 10) (hb hby d1_6) (by decide) (by decide) ?_
    refine Go.retI X0 hx hret hlk (hb hby d1_10) (by decide) (by decide) ?_
    exact ⟨by unfold own_min; rw [if_neg hc2_1] <;> rfl, N0, e0⟩
def own_max (p : Int32) (q : Int32)  : Int32 := (if p < q then q else p)
theorem d2_0 : decode jdk_29_method_65_code 0 = .ok (.iload_n 0, 1) := by decide +kernel
theorem d2_1 : decode jdk_29_method_65_code 1 = .ok (.iload_n 1, 1) := by decide +kernel
theorem d2_2 : decode jdk_29_method_65_code 2 = .ok (.if_icmp .lt 7, 3) := by decide +kernel
theorem d2_5 : decode jdk_29_method_65_code 5 = .ok (.iload_n 0, 1) := by decide +kernel
theorem d2_6 : decode jdk_29_method_65_code 6 = .ok (.goto 4, 3) := by decide +kernel
theorem d2_9 : decode jdk_29_method_65_code 9 = .ok (.iload_n 1, 1) := by decide +kernel
theorem d2_10 : decode jdk_29_method_65_code 10 = .ok (.ireturn, 1) := by decide +kernel
theorem ef_rm2 (m_ : MethodId) (p : Int32) (q : Int32) : entryFrame m_ #[(.int p), (.int q)] 2 = mkF m_ 0 #[.val (.int p), .val (.int q)] [] := by first | (simp [entryFrame, mkF, argsToLocals, Value.category]; done) | rfl
def Q2 (Z : State) (p : Int32) (q : Int32)  (h0 : Heap) (n0 : Nat) (v : Option Value) (h : Heap) (L : List Loc) : Prop := v = some (.int (own_max p q)) ∧ Fr n0 L ∧ h = h0
set_option maxRecDepth 65536 in
set_option maxHeartbeats 40000000 in
theorem rm2 (l : Launch) (Z : State) (a0 : Array Value) (hw : ∀ d ∈ tables_1, d.before a0 Z = true) (ws : List Jvm.Cond) (p : Int32) (q : Int32)  (h0 : Heap) (n0 : Nat) (Z0 : n0 ≤ h0.size)  :
    MetFree l (⟨"java/lang/Math", "max", "(II)I"⟩ : MethodName) (head1 (Jvm.Cond.code (⟨"java/lang/Math", "max", "(II)I"⟩ : MethodName) jdk_29_method_65_code 2 (some .int) :: ws) ({ frames := 0, cells := 0, slots := 0, locals := 0 } : Room)) (fun a_ U_ => a_ = #[(.int p), (.int q)] ∧ Z.Warmed39 U_.vm ∧ U_.heap = h0) (fun _ _ _ _ _ => True) (fun _ U_ o_ V_ => ∃ v_ L_, o_ = .returned v_ ∧ Q2 Z p q h0 n0 v_ V_.heap L_ ∧ FrameEnd U_ o_ V_ L_ ({ frames := 0, cells := 0, slots := 0, locals := 0 } : Room).cells ({ frames := 0, cells := 0, slots := 0, locals := 0 } : Room).slots) := by
  refine metOf (Q := Q2 Z p q h0 n0) (Jvm.Free.JP.mathPlain rfl (by decide +kernel)) ?_
  intro p_ e_ s_ m_ below meth c_ s₁ X0 hx hby hml hret hlk hZ hown hnm e0
  rw [ef_rm2]
  have N0 := Fr.nil n0
  show Go p_ e_ below _ _ s₁ (mkF m_ 0 #[.val (.int p), .val (.int q)] [])
  refine Go.iloadN X0 hx (hb hby d2_0) rfl ?_
  refine Go.iloadN X0 hx (hb hby d2_1) rfl ?_
  by_cases hc2_1 : p < q
  · skip
    refine Go.icmpYes X0 hx (pc' := 9) (hb hby d2_2) (tlt hc2_1).1 (by decide) (by decide) ?_
    show Go p_ e_ below _ _ s₁ (mkF m_ 9 #[.val (.int p), .val (.int q)] [])
    refine Go.iloadN X0 hx (hb hby d2_9) rfl ?_
    refine Go.retI X0 hx hret hlk (hb hby d2_10) (by decide) (by decide) ?_
    exact ⟨by unfold own_max; rw [if_pos hc2_1] <;> rfl, N0, e0⟩
  · skip
    refine Go.icmpNo X0 hx (hb hby d2_2) (flt hc2_1).1 ?_
    show Go p_ e_ below _ _ s₁ (mkF m_ 5 #[.val (.int p), .val (.int q)] [])
    refine Go.iloadN X0 hx (hb hby d2_5) rfl ?_
    refine Go.goto X0 hx (pc' := 10) (hb hby d2_6) (by decide) (by decide) ?_
    refine Go.retI X0 hx hret hlk (hb hby d2_10) (by decide) (by decide) ?_
    exact ⟨by unfold own_max; rw [if_neg hc2_1] <;> rfl, N0, e0⟩
theorem d3_0 : decode prog_31_method_1_code 0 = .ok (.aload_n 0, 1) := by decide +kernel
theorem d3_1 : decode prog_31_method_1_code 1 = .ok (.invokespecial 1, 3) := by decide +kernel
theorem d3_4 : decode prog_31_method_1_code 4 = .ok (.aload_n 0, 1) := by decide +kernel
theorem d3_5 : decode prog_31_method_1_code 5 = .ok (.iload_n 1, 1) := by decide +kernel
theorem d3_6 : decode prog_31_method_1_code 6 = .ok (.putfield 7, 3) := by decide +kernel
theorem d3_9 : decode prog_31_method_1_code 9 = .ok (.aload_n 0, 1) := by decide +kernel
theorem d3_10 : decode prog_31_method_1_code 10 = .ok (.iload_n 2, 1) := by decide +kernel
theorem d3_11 : decode prog_31_method_1_code 11 = .ok (.putfield 13, 3) := by decide +kernel
theorem d3_14 : decode prog_31_method_1_code 14 = .ok (.aload_n 0, 1) := by decide +kernel
theorem d3_15 : decode prog_31_method_1_code 15 = .ok (.iload_n 3, 1) := by decide +kernel
theorem d3_16 : decode prog_31_method_1_code 16 = .ok (.putfield 16, 3) := by decide +kernel
theorem d3_19 : decode prog_31_method_1_code 19 = .ok (.aload_n 0, 1) := by decide +kernel
theorem d3_20 : decode prog_31_method_1_code 20 = .ok (.iload 4, 2) := by decide +kernel
theorem d3_22 : decode prog_31_method_1_code 22 = .ok (.putfield 19, 3) := by decide +kernel
theorem d3_25 : decode prog_31_method_1_code 25 = .ok (.return_, 1) := by decide +kernel
theorem pn_3 : plainName "com/example/kosine/kosine/rank/TextStatistics" = true := by first | (simp [plainName, overriddenIn]; done) | decide +kernel
theorem ef_rm3 (m_ : MethodId) (a : Addr) (p1 : Int32) (p2 : Int32) (p3 : Int32) (p4 : Int32) : entryFrame m_ #[(.ref a), (.int p1), (.int p2), (.int p3), (.int p4)] 5 = mkF m_ 0 #[.val (.ref a), .val (.int p1), .val (.int p2), .val (.int p3), .val (.int p4)] [] := by first | (simp [entryFrame, mkF, argsToLocals, Value.category]; done) | rfl
def Q3 (Z : State) (a : Addr) (p1 : Int32) (p2 : Int32) (p3 : Int32) (p4 : Int32)  (h0 : Heap) (n0 : Nat) (v : Option Value) (h : Heap) (L : List Loc) : Prop := v = none ∧ Fr n0 L ∧ Keep h0 h [a] ∧ Exa Z h a "com/example/kosine/kosine/rank/TextStatistics" ∧ Fld Z h a "com/example/kosine/kosine/rank/TextStatistics" "termCount" "I" (.int p1) ∧ Fld Z h a "com/example/kosine/kosine/rank/TextStatistics" "uniqueTermCount" "I" (.int p2) ∧ Fld Z h a "com/example/kosine/kosine/rank/TextStatistics" "maxFrequency" "I" (.int p3) ∧ Fld Z h a "com/example/kosine/kosine/rank/TextStatistics" "byteLength" "I" (.int p4)
set_option maxRecDepth 65536 in
set_option maxHeartbeats 40000000 in
theorem rm3 (l : Launch) (Z : State) (a0 : Array Value) (hw : ∀ d ∈ tables_1, d.before a0 Z = true) (ws : List Jvm.Cond) (a : Addr) (p1 : Int32) (p2 : Int32) (p3 : Int32) (p4 : Int32)  (h0 : Heap) (n0 : Nat) (Z0 : n0 ≤ h0.size) (F_termCount : Fld Z h0 a "com/example/kosine/kosine/rank/TextStatistics" "termCount" "I" (.int (0 : Int32))) (F_uniqueTermCount : Fld Z h0 a "com/example/kosine/kosine/rank/TextStatistics" "uniqueTermCount" "I" (.int (0 : Int32))) (F_maxFrequency : Fld Z h0 a "com/example/kosine/kosine/rank/TextStatistics" "maxFrequency" "I" (.int (0 : Int32))) (F_byteLength : Fld Z h0 a "com/example/kosine/kosine/rank/TextStatistics" "byteLength" "I" (.int (0 : Int32))) (E_a : Exa Z h0 a "com/example/kosine/kosine/rank/TextStatistics") (g_a : n0 ≤ a) :
    MetFree l (⟨"com/example/kosine/kosine/rank/TextStatistics", "<init>", "(IIII)V"⟩ : MethodName) (head1 (Jvm.Cond.code (⟨"com/example/kosine/kosine/rank/TextStatistics", "<init>", "(IIII)V"⟩ : MethodName) prog_31_method_1_code 5 none :: ws) ({ frames := 1, cells := 0, slots := 0, locals := 12 } : Room)) (fun a_ U_ => a_ = #[(.ref a), (.int p1), (.int p2), (.int p3), (.int p4)] ∧ Z.Warmed39 U_.vm ∧ U_.heap = h0) (fun _ _ _ _ _ => True) (fun _ U_ o_ V_ => ∃ v_ L_, o_ = .returned v_ ∧ Q3 Z a p1 p2 p3 p4 h0 n0 v_ V_.heap L_ ∧ FrameEnd U_ o_ V_ L_ ({ frames := 1, cells := 0, slots := 0, locals := 12 } : Room).cells ({ frames := 1, cells := 0, slots := 0, locals := 12 } : Room).slots) := by
  refine metOf (Q := Q3 Z a p1 p2 p3 p4 h0 n0) (plainFor_of_name pn_3) ?_
  intro p_ e_ s_ m_ below meth c_ s₁ X0 hx hby hml hret hlk hZ hown hnm e0
  rw [ef_rm3]
  have N0 := Fr.nil n0
  show Go p_ e_ below _ _ s₁ (mkF m_ 0 #[.val (.ref a), .val (.int p1), .val (.int p2), .val (.int p3), .val (.int p4)] [])
  refine Go.aloadN X0 hx (hb hby d3_0) rfl rfl ?_
  refine Go.initO X0 hx hZ hown (hw _ (List.mem_of_getElem? (i := 14) rfl)) (hw _ (List.mem_of_getElem? (i := 15) rfl)) (hw _ (List.mem_of_getElem? (i := 16) rfl)) e0 (by rw [hml]; rfl) (hb hby d3_1) (by decide) (W := 0) (Nat.le_of_ble_eq_true rfl) (by decide) ?_
  intro T1 X1 e1
  show Go p_ e_ below _ _ T1 (mkF m_ 4 #[.val (.ref a), .val (.int p1), .val (.int p2), .val (.int p3), .val (.int p4)] [])
  refine Go.aloadN X1 hx (hb hby d3_4) rfl rfl ?_
  refine Go.iloadN X1 hx (hb hby d3_5) rfl ?_
  refine Go.putF X1 hx hZ hown (host := "") (Or.inl (hw _ (List.mem_of_getElem? (i := 17) rfl))) Via.refl e1 F_termCount E_a (Or.inr ⟨(hw _ (List.mem_of_getElem? (i := 18) rfl)), rfl, hnm⟩) (hw _ (List.mem_of_getElem? (i := 9) rfl)) (ty := .int) (by decide) rfl rfl (hb hby d3_6) ?_
  intro T2 h2 X2 e2 W2
  have N2 := Fr.snoc X2 N0 g_a
  have E_2_a := E_a.wr W2
  have F_2_a_termCount := F_termCount.same W2
  have F_2_a_uniqueTermCount := F_uniqueTermCount.other W2 (Or.inr (slot_ne (Or.inr (hw _ (List.mem_of_getElem? (i := 20) rfl))) (Or.inr (hw _ (List.mem_of_getElem? (i := 18) rfl))) (by decide) (t := .int) (t' := .int) (by decide) (by decide)))
  have F_2_a_maxFrequency := F_maxFrequency.other W2 (Or.inr (slot_ne (Or.inr (hw _ (List.mem_of_getElem? (i := 22) rfl))) (Or.inr (hw _ (List.mem_of_getElem? (i := 18) rfl))) (by decide) (t := .int) (t' := .int) (by decide) (by decide)))
  have F_2_a_byteLength := F_byteLength.other W2 (Or.inr (slot_ne (Or.inr (hw _ (List.mem_of_getElem? (i := 24) rfl))) (Or.inr (hw _ (List.mem_of_getElem? (i := 18) rfl))) (by decide) (t := .int) (t' := .int) (by decide) (by decide)))
  have K2 : Keep h0 h2 [a] := (Keep.refl h0 [a]).wr W2 (Or.inl (List.mem_of_getElem? (i := 0) rfl))
  have Z2 : n0 ≤ h2.size := (by rw [W2.size]; exact Z0)
  show Go p_ e_ below _ _ T2 (mkF m_ 9 #[.val (.ref a), .val (.int p1), .val (.int p2), .val (.int p3), .val (.int p4)] [])
  refine Go.aloadN X2 hx (hb hby d3_9) rfl rfl ?_
  refine Go.iloadN X2 hx (hb hby d3_10) rfl ?_
  refine Go.putF X2 hx hZ hown (host := "") (Or.inl (hw _ (List.mem_of_getElem? (i := 19) rfl))) Via.refl e2 F_2_a_uniqueTermCount E_2_a (Or.inr ⟨(hw _ (List.mem_of_getElem? (i := 20) rfl)), rfl, hnm⟩) (hw _ (List.mem_of_getElem? (i := 9) rfl)) (ty := .int) (by decide) rfl rfl (hb hby d3_11) ?_
  intro T3 h3 X3 e3 W3
  have N3 := Fr.snoc X3 N2 g_a
  have E_3_a := E_2_a.wr W3
  have F_3_a_termCount := F_2_a_termCount.other W3 (Or.inr (slot_ne (Or.inr (hw _ (List.mem_of_getElem? (i := 18) rfl))) (Or.inr (hw _ (List.mem_of_getElem? (i := 20) rfl))) (by decide) (t := .int) (t' := .int) (by decide) (by decide)))
  have F_3_a_uniqueTermCount := F_2_a_uniqueTermCount.same W3
  have F_3_a_maxFrequency := F_2_a_maxFrequency.other W3 (Or.inr (slot_ne (Or.inr (hw _ (List.mem_of_getElem? (i := 22) rfl))) (Or.inr (hw _ (List.mem_of_getElem? (i := 20) rfl))) (by decide) (t := .int) (t' := .int) (by decide) (by decide)))
  have F_3_a_byteLength := F_2_a_byteLength.other W3 (Or.inr (slot_ne (Or.inr (hw _ (List.mem_of_getElem? (i := 24) rfl))) (Or.inr (hw _ (List.mem_of_getElem? (i := 20) rfl))) (by decide) (t := .int) (t' := .int) (by decide) (by decide)))
  have K3 : Keep h0 h3 [a] := K2.wr W3 (Or.inl (List.mem_of_getElem? (i := 0) rfl))
  have Z3 : n0 ≤ h3.size := (by rw [W3.size]; exact Z2)
  show Go p_ e_ below _ _ T3 (mkF m_ 14 #[.val (.ref a), .val (.int p1), .val (.int p2), .val (.int p3), .val (.int p4)] [])
  refine Go.aloadN X3 hx (hb hby d3_14) rfl rfl ?_
  refine Go.iloadN X3 hx (hb hby d3_15) rfl ?_
  refine Go.putF X3 hx hZ hown (host := "") (Or.inl (hw _ (List.mem_of_getElem? (i := 21) rfl))) Via.refl e3 F_3_a_maxFrequency E_3_a (Or.inr ⟨(hw _ (List.mem_of_getElem? (i := 22) rfl)), rfl, hnm⟩) (hw _ (List.mem_of_getElem? (i := 9) rfl)) (ty := .int) (by decide) rfl rfl (hb hby d3_16) ?_
  intro T4 h4 X4 e4 W4
  have N4 := Fr.snoc X4 N3 g_a
  have E_4_a := E_3_a.wr W4
  have F_4_a_termCount := F_3_a_termCount.other W4 (Or.inr (slot_ne (Or.inr (hw _ (List.mem_of_getElem? (i := 18) rfl))) (Or.inr (hw _ (List.mem_of_getElem? (i := 22) rfl))) (by decide) (t := .int) (t' := .int) (by decide) (by decide)))
  have F_4_a_uniqueTermCount := F_3_a_uniqueTermCount.other W4 (Or.inr (slot_ne (Or.inr (hw _ (List.mem_of_getElem? (i := 20) rfl))) (Or.inr (hw _ (List.mem_of_getElem? (i := 22) rfl))) (by decide) (t := .int) (t' := .int) (by decide) (by decide)))
  have F_4_a_maxFrequency := F_3_a_maxFrequency.same W4
  have F_4_a_byteLength := F_3_a_byteLength.other W4 (Or.inr (slot_ne (Or.inr (hw _ (List.mem_of_getElem? (i := 24) rfl))) (Or.inr (hw _ (List.mem_of_getElem? (i := 22) rfl))) (by decide) (t := .int) (t' := .int) (by decide) (by decide)))
  have K4 : Keep h0 h4 [a] := K3.wr W4 (Or.inl (List.mem_of_getElem? (i := 0) rfl))
  have Z4 : n0 ≤ h4.size := (by rw [W4.size]; exact Z3)
  show Go p_ e_ below _ _ T4 (mkF m_ 19 #[.val (.ref a), .val (.int p1), .val (.int p2), .val (.int p3), .val (.int p4)] [])
  refine Go.aloadN X4 hx (hb hby d3_19) rfl rfl ?_
  refine Go.iload X4 hx (hb hby d3_20) rfl ?_
  refine Go.putF X4 hx hZ hown (host := "") (Or.inl (hw _ (List.mem_of_getElem? (i := 23) rfl))) Via.refl e4 F_4_a_byteLength E_4_a (Or.inr ⟨(hw _ (List.mem_of_getElem? (i := 24) rfl)), rfl, hnm⟩) (hw _ (List.mem_of_getElem? (i := 9) rfl)) (ty := .int) (by decide) rfl rfl (hb hby d3_22) ?_
  intro T5 h5 X5 e5 W5
  have N5 := Fr.snoc X5 N4 g_a
  have E_5_a := E_4_a.wr W5
  have F_5_a_termCount := F_4_a_termCount.other W5 (Or.inr (slot_ne (Or.inr (hw _ (List.mem_of_getElem? (i := 18) rfl))) (Or.inr (hw _ (List.mem_of_getElem? (i := 24) rfl))) (by decide) (t := .int) (t' := .int) (by decide) (by decide)))
  have F_5_a_uniqueTermCount := F_4_a_uniqueTermCount.other W5 (Or.inr (slot_ne (Or.inr (hw _ (List.mem_of_getElem? (i := 20) rfl))) (Or.inr (hw _ (List.mem_of_getElem? (i := 24) rfl))) (by decide) (t := .int) (t' := .int) (by decide) (by decide)))
  have F_5_a_maxFrequency := F_4_a_maxFrequency.other W5 (Or.inr (slot_ne (Or.inr (hw _ (List.mem_of_getElem? (i := 22) rfl))) (Or.inr (hw _ (List.mem_of_getElem? (i := 24) rfl))) (by decide) (t := .int) (t' := .int) (by decide) (by decide)))
  have F_5_a_byteLength := F_4_a_byteLength.same W5
  have K5 : Keep h0 h5 [a] := K4.wr W5 (Or.inl (List.mem_of_getElem? (i := 0) rfl))
  have Z5 : n0 ≤ h5.size := (by rw [W5.size]; exact Z4)
  show Go p_ e_ below _ _ T5 (mkF m_ 25 #[.val (.ref a), .val (.int p1), .val (.int p2), .val (.int p3), .val (.int p4)] [])
  refine Go.retV X5 hx hret hlk (hb hby d3_25) (by decide) (by decide) ?_
  rw [e5]
  exact ⟨rfl, N5, K5, E_5_a, F_5_a_termCount, F_5_a_uniqueTermCount, F_5_a_maxFrequency, F_5_a_byteLength⟩
def own_af   (ct : Int32) (cu : Int32) : UInt64 := (if cu = (0 : Int32) then FP.dconst0 else (FP.ddiv (FP.i2d ct) (FP.i2d cu)))
theorem d5_0 : decode prog_31_method_6_code 0 = .ok (.aload_n 0, 1) := by decide +kernel
theorem d5_1 : decode prog_31_method_6_code 1 = .ok (.getfield 13, 3) := by decide +kernel
theorem d5_4 : decode prog_31_method_6_code 4 = .ok (.ifCond .ne 7, 3) := by decide +kernel
theorem d5_7 : decode prog_31_method_6_code 7 = .ok (.dconst 0, 1) := by decide +kernel
theorem d5_8 : decode prog_31_method_6_code 8 = .ok (.goto 14, 3) := by decide +kernel
theorem d5_11 : decode prog_31_method_6_code 11 = .ok (.aload_n 0, 1) := by decide +kernel
theorem d5_12 : decode prog_31_method_6_code 12 = .ok (.getfield 7, 3) := by decide +kernel
theorem d5_15 : decode prog_31_method_6_code 15 = .ok (.i2d, 1) := by decide +kernel
theorem d5_16 : decode prog_31_method_6_code 16 = .ok (.aload_n 0, 1) := by decide +kernel
theorem d5_17 : decode prog_31_method_6_code 17 = .ok (.getfield 13, 3) := by decide +kernel
theorem d5_20 : decode prog_31_method_6_code 20 = .ok (.i2d, 1) := by decide +kernel
theorem d5_21 : decode prog_31_method_6_code 21 = .ok (.ddiv, 1) := by decide +kernel
theorem d5_22 : decode prog_31_method_6_code 22 = .ok (.dreturn, 1) := by decide +kernel
theorem pn_5 : plainName "com/example/kosine/kosine/rank/TextStatistics" = true := by first | (simp [plainName, overriddenIn]; done) | decide +kernel
theorem ef_rm5 (m_ : MethodId) (a : Addr) : entryFrame m_ #[(.ref a)] 1 = mkF m_ 0 #[.val (.ref a)] [] := by first | (simp [entryFrame, mkF, argsToLocals, Value.category]; done) | rfl
def Q5 (Z : State) (a : Addr)  (ct : Int32) (cu : Int32) (h0 : Heap) (n0 : Nat) (v : Option Value) (h : Heap) (L : List Loc) : Prop := v = some (.double (own_af ct cu)) ∧ Fr n0 L ∧ h = h0
set_option maxRecDepth 65536 in
set_option maxHeartbeats 40000000 in
theorem rm5 (l : Launch) (Z : State) (a0 : Array Value) (hw : ∀ d ∈ tables_1, d.before a0 Z = true) (ws : List Jvm.Cond) (a : Addr)  (ct : Int32) (cu : Int32) (h0 : Heap) (n0 : Nat) (Z0 : n0 ≤ h0.size)  (F_ct : Fld Z h0 a "com/example/kosine/kosine/rank/TextStatistics" "termCount" "I" (.int ct)) (F_cu : Fld Z h0 a "com/example/kosine/kosine/rank/TextStatistics" "uniqueTermCount" "I" (.int cu)) :
    MetFree l (⟨"com/example/kosine/kosine/rank/TextStatistics", "averageFrequency", "()D"⟩ : MethodName) (head1 (Jvm.Cond.code (⟨"com/example/kosine/kosine/rank/TextStatistics", "averageFrequency", "()D"⟩ : MethodName) prog_31_method_6_code 1 (some .double) :: ws) ({ frames := 0, cells := 0, slots := 0, locals := 0 } : Room)) (fun a_ U_ => a_ = #[(.ref a)] ∧ Z.Warmed39 U_.vm ∧ U_.heap = h0) (fun _ _ _ _ _ => True) (fun _ U_ o_ V_ => ∃ v_ L_, o_ = .returned v_ ∧ Q5 Z a ct cu h0 n0 v_ V_.heap L_ ∧ FrameEnd U_ o_ V_ L_ ({ frames := 0, cells := 0, slots := 0, locals := 0 } : Room).cells ({ frames := 0, cells := 0, slots := 0, locals := 0 } : Room).slots) := by
  refine metOf (Q := Q5 Z a ct cu h0 n0) (plainFor_of_name pn_5) ?_
  intro p_ e_ s_ m_ below meth c_ s₁ X0 hx hby hml hret hlk hZ hown hnm e0
  rw [ef_rm5]
  have N0 := Fr.nil n0
  show Go p_ e_ below _ _ s₁ (mkF m_ 0 #[.val (.ref a)] [])
  refine Go.aloadN X0 hx (hb hby d5_0) rfl rfl ?_
  refine Go.getF X0 hx hZ hown (host := "") (Or.inl (hw _ (List.mem_of_getElem? (i := 19) rfl))) Via.refl e0 F_cu (hb hby d5_1) ?_
  intro T1 X1 e1
  show Go p_ e_ below _ _ T1 (mkF m_ 4 #[.val (.ref a)] [(.int cu)])
  by_cases hc4_2 : cu = (0 : Int32)
  · skip
    refine Go.ifNo X1 hx (hb hby d5_4) ((if0 _ _).trans (teq hc4_2).2) ?_
    show Go p_ e_ below _ _ T1 (mkF m_ 7 #[.val (.ref a)] [])
    refine Go.dconst0 X1 hx (hb hby d5_7) ?_
    refine Go.goto X1 hx (pc' := 22) (hb hby d5_8) (by decide) (by decide) ?_
    refine Go.retD X1 hx hret hlk (hb hby d5_22) (by decide) (by decide) ?_
    exact ⟨by unfold own_af; rw [if_pos hc4_2] <;> rfl, N0, e1⟩
  · skip
    refine Go.ifYes X1 hx (pc' := 11) (hb hby d5_4) ((if0 _ _).trans (feq hc4_2).2) (by decide) (by decide) ?_
    show Go p_ e_ below _ _ T1 (mkF m_ 11 #[.val (.ref a)] [])
    refine Go.aloadN X1 hx (hb hby d5_11) rfl rfl ?_
    refine Go.getF X1 hx hZ hown (host := "") (Or.inl (hw _ (List.mem_of_getElem? (i := 17) rfl))) Via.refl e1 F_ct (hb hby d5_12) ?_
    intro T3 X3 e3
    show Go p_ e_ below _ _ T3 (mkF m_ 15 #[.val (.ref a)] [(.int ct)])
    refine Go.i2d X3 hx (hb hby d5_15) ?_
    refine Go.aloadN X3 hx (hb hby d5_16) rfl rfl ?_
    refine Go.getF X3 hx hZ hown (host := "") (Or.inl (hw _ (List.mem_of_getElem? (i := 19) rfl))) Via.refl e3 F_cu (hb hby d5_17) ?_
    intro T4 X4 e4
    show Go p_ e_ below _ _ T4 (mkF m_ 20 #[.val (.ref a)] [(.int cu), (.double (FP.i2d ct))])
    refine Go.i2d X4 hx (hb hby d5_20) ?_
    refine Go.ddiv X4 hx (hb hby d5_21) (Jvm.Free.Fl.val64_no.mpr (own_nd hc4_2)) ?_
    refine Go.retD X4 hx hret hlk (hb hby d5_22) (by decide) (by decide) ?_
    exact ⟨by unfold own_af; rw [if_neg hc4_2] <;> rfl, N0, e4⟩
theorem own_min_eq (p q : Int32) : (own_min p q).toInt = if q.toInt < p.toInt then q.toInt else p.toInt := by
  unfold own_min
  simp only [Int32.lt_iff_toInt_lt]
  split <;> rfl
theorem own_max_eq (p q : Int32) : (own_max p q).toInt = if p.toInt < q.toInt then q.toInt else p.toInt := by
  unfold own_max
  simp only [Int32.lt_iff_toInt_lt]
  split <;> rfl
def own_P (uu tt : Int32) : Prop := (uu = 0 ∧ tt = 0) ∨ (0 < uu.toInt ∧ uu.toInt ≤ tt.toInt)
theorem own_mm (x y : Int32) : own_P (own_max (1 : Int32) (own_min x y)) (own_max (own_max x y) (own_max (1 : Int32) (own_min x y))) := by
  refine Or.inr ?_
  have e1 : (1 : Int32).toInt = 1 := rfl
  simp only [own_max_eq, own_min_eq, e1]
  generalize x.toInt = x, y.toInt = y
  repeat' split
  all_goals omega
theorem own_pos {uu tt : Int32} (h : own_P uu tt) (h0 : ¬ uu = 0) : 0 < uu.toInt ∧ uu.toInt ≤ tt.toInt := by
  rcases h with ⟨h, -⟩ | h
  · exact absurd h h0
  · exact h
theorem own_ae {uu tt : Int32} (h0 : ¬ uu = 0) : own_af tt uu = own_ad tt uu := by unfold own_af; rw [if_neg h0]
theorem own_az {uu tt : Int32} (h0 : uu = 0) : cmpValue (FP.dcmp (own_af tt uu) FP.dconst0) .l = 0 := by
  unfold own_af; rw [if_pos h0]; decide +kernel
theorem own_last {uu tt : Int32} (h : 0 < uu.toInt ∧ uu.toInt ≤ tt.toInt) : ∃ v : Int32, cmpValue (FP.dcmp (own_ad tt uu) FP.dconst1) .l = v ∧ ¬ v < (0 : Int32) := by
  rcases own_f3 h.1 h.2 with e | e
  · exact ⟨1, by rw [e]; rfl, by decide⟩
  · exact ⟨0, by rw [e]; rfl, by decide⟩
theorem pd_oIIcI : parseMethodDescriptor "(II)I" = some ⟨[.int, .int], some .int⟩ := by decide +kernel
theorem pd_oIIIIcV : parseMethodDescriptor "(IIII)V" = some ⟨[.int, .int, .int, .int], none⟩ := by decide +kernel
theorem pd_ocD : parseMethodDescriptor "()D" = some ⟨[], some .double⟩ := by decide +kernel
theorem pn_0 : plainName "com/example/kosine/kosine/rank/TextStatisticsAverageFrequencyPinLaw" = true := by first | (simp [plainName, overriddenIn]; done) | decide +kernel
theorem ef_rm0 (m_ : MethodId) (q0 : Int32) (q1 : Int32) (q2 : Int32) (q3 : Int32) (q4 : Int32) : entryFrame m_ #[(.int q0), (.int q1), (.int q2), (.int q3), (.int q4)] maxLocals = mkF m_ 0 #[.val (.int q0), .val (.int q1), .val (.int q2), .val (.int q3), .val (.int q4), .unset, .unset, .unset, .unset, .unset, .unset, .unset, .unset, .unset, .unset, .unset, .unset, .unset, .unset, .unset, .unset, .unset, .unset, .unset, .unset, .unset] [] := by first | (simp [entryFrame, mkF, argsToLocals, Value.category, maxLocals]; done) | rfl
def Q0 (Z : State) (q0 : Int32) (q1 : Int32) (q2 : Int32) (q3 : Int32) (q4 : Int32)  (h0 : Heap) (n0 : Nat) (v : Option Value) (h : Heap) (L : List Loc) : Prop := v = some (.int 1) ∧ Fr n0 L
set_option maxRecDepth 65536 in
set_option maxHeartbeats 40000000 in
theorem rm0 (l : Launch) (Z : State) (a0 : Array Value) (hw : ∀ d ∈ tables_1, d.before a0 Z = true) (ws : List Jvm.Cond) (q0 : Int32) (q1 : Int32) (q2 : Int32) (q3 : Int32) (q4 : Int32)  (h0 : Heap) (n0 : Nat) (Z0 : n0 ≤ h0.size)  :
    MetFree l x (head1 (Jvm.Cond.code x code maxLocals ret :: ws) room_1) (fun a_ U_ => a_ = #[(.int q0), (.int q1), (.int q2), (.int q3), (.int q4)] ∧ Z.Warmed39 U_.vm ∧ U_.heap = h0) (fun _ _ _ _ _ => True) (fun _ U_ o_ V_ => ∃ v_ L_, o_ = .returned v_ ∧ Q0 Z q0 q1 q2 q3 q4 h0 n0 v_ V_.heap L_ ∧ FrameEnd U_ o_ V_ L_ room_1.cells room_1.slots) := by
  refine metOf (Q := Q0 Z q0 q1 q2 q3 q4 h0 n0) (plainFor_of_name pn_0) ?_
  intro p_ e_ s_ m_ below meth c_ s₁ X0 hx hby hml hret hlk hZ hown hnm e0
  rw [ef_rm0]
  have N0 := Fr.nil n0
  show Go p_ e_ below _ _ s₁ (mkF m_ 0 #[.val (.int q0), .val (.int q1), .val (.int q2), .val (.int q3), .val (.int q4), .unset, .unset, .unset, .unset, .unset, .unset, .unset, .unset, .unset, .unset, .unset, .unset, .unset, .unset, .unset, .unset, .unset, .unset, .unset, .unset, .unset] [])
  refine Go.iloadN X0 hx (hb hby at_0) rfl ?_
  refine Go.ldcI X0 hx hZ hown (hw _ (List.mem_of_getElem? (i := 0) rfl)) (hb hby at_1) ?_
  refine Go.iand X0 hx (hb hby at_3) ?_
  refine Go.istore X0 hx (l' := #[.val (.int q0), .val (.int q1), .val (.int q2), .val (.int q3), .val (.int q4), .val (.int (q0 &&& (2147483647 : Int32))), .unset, .unset, .unset, .unset, .unset, .unset, .unset, .unset, .unset, .unset, .unset, .unset, .unset, .unset, .unset, .unset, .unset, .unset, .unset, .unset]) (hb hby at_4) rfl ?_
  refine Go.iloadN X0 hx (hb hby at_6) rfl ?_
  refine Go.ldcI X0 hx hZ hown (hw _ (List.mem_of_getElem? (i := 0) rfl)) (hb hby at_7) ?_
  refine Go.iand X0 hx (hb hby at_9) ?_
  refine Go.istore X0 hx (l' := #[.val (.int q0), .val (.int q1), .val (.int q2), .val (.int q3), .val (.int q4), .val (.int (q0 &&& (2147483647 : Int32))), .val (.int (q1 &&& (2147483647 : Int32))), .unset, .unset, .unset, .unset, .unset, .unset, .unset, .unset, .unset, .unset, .unset, .unset, .unset, .unset, .unset, .unset, .unset, .unset, .unset]) (hb hby at_10) rfl ?_
  have j1 : ∀ (T2 : State) (l2 : List Loc) (uu : Int32) (tt : Int32), Stand p_ l e_ room_1 s_ m_ #[(.int q0), (.int q1), (.int q2), (.int q3), (.int q4)] below meth c_ T2 l2 0 0 → Fr n0 l2 → T2.heap = h0 → (own_P uu tt) → Go p_ e_ below (FE s_ room_1.cells room_1.slots) (Q0 Z q0 q1 q2 q3 q4 h0 n0) T2 (mkF m_ 54 #[.val (.int q0), .val (.int q1), .val (.int q2), .val (.int q3), .val (.int q4), .val (.int (q0 &&& (2147483647 : Int32))), .val (.int (q1 &&& (2147483647 : Int32))), .val (.int uu), .val (.int tt), .unset, .unset, .unset, .unset, .unset, .unset, .unset, .unset, .unset, .unset, .unset, .unset, .unset, .unset, .unset, .unset, .unset] []) := by
    intro T2 l2 uu tt X2 N2 e2  h_j1_0
    show Go p_ e_ below _ _ T2 (mkF m_ 54 #[.val (.int q0), .val (.int q1), .val (.int q2), .val (.int q3), .val (.int q4), .val (.int (q0 &&& (2147483647 : Int32))), .val (.int (q1 &&& (2147483647 : Int32))), .val (.int uu), .val (.int tt), .unset, .unset, .unset, .unset, .unset, .unset, .unset, .unset, .unset, .unset, .unset, .unset, .unset, .unset, .unset, .unset, .unset] [])
    refine Go.newO X2 hx hZ hown (hw _ (List.mem_of_getElem? (i := 8) rfl)) (hw _ (List.mem_of_getElem? (i := 9) rfl)) (hw _ (List.mem_of_getElem? (i := 10) rfl)) e2 (hb hby at_54) (by decide) (by decide) ?_
    intro T3 h3 b3 zq3 X3 e3 E3 A3 D3
    have g_b3 : n0 ≤ b3 := Nat.le_trans Z0 (Nat.le_of_eq zq3.symm)
    have Z3 : n0 ≤ h3.size := Nat.le_trans Z0 E3.1
    have F_b3_termCount : Fld Z h3 b3 "com/example/kosine/kosine/rank/TextStatistics" "termCount" "I" (.int (0 : Int32)) := D3 (Or.inr (hw _ (List.mem_of_getElem? (i := 18) rfl))) (ty := .int) (by decide)
    have F_b3_uniqueTermCount : Fld Z h3 b3 "com/example/kosine/kosine/rank/TextStatistics" "uniqueTermCount" "I" (.int (0 : Int32)) := D3 (Or.inr (hw _ (List.mem_of_getElem? (i := 20) rfl))) (ty := .int) (by decide)
    have F_b3_maxFrequency : Fld Z h3 b3 "com/example/kosine/kosine/rank/TextStatistics" "maxFrequency" "I" (.int (0 : Int32)) := D3 (Or.inr (hw _ (List.mem_of_getElem? (i := 22) rfl))) (ty := .int) (by decide)
    have F_b3_byteLength : Fld Z h3 b3 "com/example/kosine/kosine/rank/TextStatistics" "byteLength" "I" (.int (0 : Int32)) := D3 (Or.inr (hw _ (List.mem_of_getElem? (i := 24) rfl))) (ty := .int) (by decide)
    show Go p_ e_ below _ _ T3 (mkF m_ 57 #[.val (.int q0), .val (.int q1), .val (.int q2), .val (.int q3), .val (.int q4), .val (.int (q0 &&& (2147483647 : Int32))), .val (.int (q1 &&& (2147483647 : Int32))), .val (.int uu), .val (.int tt), .unset, .unset, .unset, .unset, .unset, .unset, .unset, .unset, .unset, .unset, .unset, .unset, .unset, .unset, .unset, .unset, .unset] [(.ref b3)])
    refine Go.dup X3 hx (hb hby at_57) rfl ?_
    refine Go.iload X3 hx (hb hby at_58) rfl ?_
    refine Go.iload X3 hx (hb hby at_60) rfl ?_
    refine Go.iloadN X3 hx (hb hby at_62) rfl ?_
    refine Go.iload X3 hx (hb hby at_63) rfl ?_
    refine Go.callI X3 hx hZ (rm3 l Z a0 hw [] b3 tt uu q3 q4 h3 n0 Z3 F_b3_termCount F_b3_uniqueTermCount F_b3_maxFrequency F_b3_byteLength A3 g_b3) rfl hown (hw _ (List.mem_of_getElem? (i := 11) rfl)) (hw _ (List.mem_of_getElem? (i := 12) rfl)) (hw _ (List.mem_of_getElem? (i := 10) rfl)) (hw _ (List.mem_of_getElem? (i := 13) rfl)) (by decide) e3 (a := b3) (W := 1) (by rw [hml]; rfl) (argsL := [(.int tt), (.int uu), (.int q3), (.int q4)]) (S := [(.ref b3)]) (Nat.le_of_ble_eq_true rfl) (by decide) (by decide) (by decide) (by decide) pd_oIIIIcV rfl rfl (hb hby at_65) ?_
    rintro _ T4 L4 X4 ⟨rfl, N4q, K4, E4, F4_termCount, F4_uniqueTermCount, F4_maxFrequency, F4_byteLength⟩
    have N4 := Fr.app N2 N4q
    have Z4 : n0 ≤ T4.heap.size := Nat.le_trans Z3 K4.1
    show Go p_ e_ below _ _ T4 (mkF m_ 68 #[.val (.int q0), .val (.int q1), .val (.int q2), .val (.int q3), .val (.int q4), .val (.int (q0 &&& (2147483647 : Int32))), .val (.int (q1 &&& (2147483647 : Int32))), .val (.int uu), .val (.int tt), .unset, .unset, .unset, .unset, .unset, .unset, .unset, .unset, .unset, .unset, .unset, .unset, .unset, .unset, .unset, .unset, .unset] [(.ref b3)])
    refine Go.astore X4 hx (l' := #[.val (.int q0), .val (.int q1), .val (.int q2), .val (.int q3), .val (.int q4), .val (.int (q0 &&& (2147483647 : Int32))), .val (.int (q1 &&& (2147483647 : Int32))), .val (.int uu), .val (.int tt), .val (.ref b3), .unset, .unset, .unset, .unset, .unset, .unset, .unset, .unset, .unset, .unset, .unset, .unset, .unset, .unset, .unset, .unset]) (hb hby at_68) rfl rfl ?_
    refine Go.aload X4 hx (hb hby at_70) rfl rfl ?_
    refine Go.callV X4 hx hZ (y0 := (⟨"com/example/kosine/kosine/rank/TextStatistics", "averageFrequency", "()D"⟩ : MethodName)) (rm5 l Z a0 hw [] b3  tt uu T4.heap n0 Z4  F4_termCount F4_uniqueTermCount) (by decide) hown (hw _ (List.mem_of_getElem? (i := 25) rfl)) (hw _ (List.mem_of_getElem? (i := 26) rfl)) (notFace_of_selects (args := #[]) (mvT hZ (hw _ (List.mem_of_getElem? (i := 28) rfl)))) (hw _ (List.mem_of_getElem? (i := 28) rfl)) (hw _ (List.mem_of_getElem? (i := 27) rfl)) (hw _ (List.mem_of_getElem? (i := 10) rfl)) (hw _ (List.mem_of_getElem? (i := 29) rfl)) rfl E4 (W := 0) (by rw [hml]; rfl) (argsL := []) (S := []) (Nat.le_of_ble_eq_true rfl) (by decide) (by decide) (by decide) (by decide) pd_ocD rfl rfl (hb hby at_72) ?_
    rintro _ T5 L5 X5 ⟨rfl, N5q, e5⟩
    have N5 := Fr.app N4 N5q
    show Go p_ e_ below _ _ T5 (mkF m_ 75 #[.val (.int q0), .val (.int q1), .val (.int q2), .val (.int q3), .val (.int q4), .val (.int (q0 &&& (2147483647 : Int32))), .val (.int (q1 &&& (2147483647 : Int32))), .val (.int uu), .val (.int tt), .val (.ref b3), .unset, .unset, .unset, .unset, .unset, .unset, .unset, .unset, .unset, .unset, .unset, .unset, .unset, .unset, .unset, .unset] [(.double (own_af   tt uu))])
    refine Go.dstore X5 hx (l' := #[.val (.int q0), .val (.int q1), .val (.int q2), .val (.int q3), .val (.int q4), .val (.int (q0 &&& (2147483647 : Int32))), .val (.int (q1 &&& (2147483647 : Int32))), .val (.int uu), .val (.int tt), .val (.ref b3), .val (.double (own_af   tt uu)), .second, .unset, .unset, .unset, .unset, .unset, .unset, .unset, .unset, .unset, .unset, .unset, .unset, .unset, .unset]) (hb hby at_75) rfl ?_
    refine Go.iload X5 hx (hb hby at_77) rfl ?_
    by_cases hc79_6 : uu = (0 : Int32)
    · skip
      refine Go.ifNo X5 hx (hb hby at_79) ((if0 _ _).trans (teq hc79_6).2) ?_
      show Go p_ e_ below _ _ T5 (mkF m_ 82 #[.val (.int q0), .val (.int q1), .val (.int q2), .val (.int q3), .val (.int q4), .val (.int (q0 &&& (2147483647 : Int32))), .val (.int (q1 &&& (2147483647 : Int32))), .val (.int uu), .val (.int tt), .val (.ref b3), .val (.double (own_af   tt uu)), .second, .unset, .unset, .unset, .unset, .unset, .unset, .unset, .unset, .unset, .unset, .unset, .unset, .unset, .unset] [])
      refine Go.dload X5 hx (hb hby at_82) rfl ?_
      refine Go.dconst0 X5 hx (hb hby at_84) ?_
      refine Go.dcmp X5 hx (v := (0 : Int32)) (hb hby at_85) (own_az hc79_6) ?_
      refine Go.ifNo X5 hx (hb hby at_86) ((if0 _ _).trans (teq (by decide)).2) ?_
      show Go p_ e_ below _ _ T5 (mkF m_ 89 #[.val (.int q0), .val (.int q1), .val (.int q2), .val (.int q3), .val (.int q4), .val (.int (q0 &&& (2147483647 : Int32))), .val (.int (q1 &&& (2147483647 : Int32))), .val (.int uu), .val (.int tt), .val (.ref b3), .val (.double (own_af   tt uu)), .second, .unset, .unset, .unset, .unset, .unset, .unset, .unset, .unset, .unset, .unset, .unset, .unset, .unset, .unset] [])
      refine Go.iconst X5 hx (1 : Int32) (hb hby at_89) rfl ?_
      refine Go.goto X5 hx (pc' := 94) (hb hby at_90) (by decide) (by decide) ?_
      refine Go.retN X5 hx hret hlk (by simp) (hb hby at_94) (by decide) (by decide) ?_
      exact ⟨rfl, N5⟩
    · skip
      refine Go.ifYes X5 hx (pc' := 95) (hb hby at_79) ((if0 _ _).trans (feq hc79_6).2) (by decide) (by decide) ?_
      have hnz : ¬ uu = 0 := hc79_6
      have hP1 := own_pos h_j1_0 hnz
      have hA := own_ae (tt := tt) hnz
      show Go p_ e_ below _ _ T5 (mkF m_ 95 #[.val (.int q0), .val (.int q1), .val (.int q2), .val (.int q3), .val (.int q4), .val (.int (q0 &&& (2147483647 : Int32))), .val (.int (q1 &&& (2147483647 : Int32))), .val (.int uu), .val (.int tt), .val (.ref b3), .val (.double (own_af   tt uu)), .second, .unset, .unset, .unset, .unset, .unset, .unset, .unset, .unset, .unset, .unset, .unset, .unset, .unset, .unset] [])
      refine Go.iload X5 hx (hb hby at_95) rfl ?_
      refine Go.iload X5 hx (hb hby at_97) rfl ?_
      refine Go.idiv X5 hx (hb hby at_99) hnz ?_
      refine Go.i2l X5 hx (hb hby at_100) ?_
      refine Go.lstore X5 hx (l' := #[.val (.int q0), .val (.int q1), .val (.int q2), .val (.int q3), .val (.int q4), .val (.int (q0 &&& (2147483647 : Int32))), .val (.int (q1 &&& (2147483647 : Int32))), .val (.int uu), .val (.int tt), .val (.ref b3), .val (.double (own_af   tt uu)), .second, .val (.long ((tt / uu).toInt64)), .second, .unset, .unset, .unset, .unset, .unset, .unset, .unset, .unset, .unset, .unset, .unset, .unset]) (hb hby at_101) rfl ?_
      refine Go.iload X5 hx (hb hby at_103) rfl ?_
      refine Go.iload X5 hx (hb hby at_105) rfl ?_
      refine Go.irem X5 hx (hb hby at_107) hnz ?_
      refine Go.i2l X5 hx (hb hby at_108) ?_
      refine Go.lstore X5 hx (l' := #[.val (.int q0), .val (.int q1), .val (.int q2), .val (.int q3), .val (.int q4), .val (.int (q0 &&& (2147483647 : Int32))), .val (.int (q1 &&& (2147483647 : Int32))), .val (.int uu), .val (.int tt), .val (.ref b3), .val (.double (own_af   tt uu)), .second, .val (.long ((tt / uu).toInt64)), .second, .val (.long ((tt % uu).toInt64)), .second, .unset, .unset, .unset, .unset, .unset, .unset, .unset, .unset, .unset, .unset]) (hb hby at_109) rfl ?_
      refine Go.lload X5 hx (hb hby at_111) rfl ?_
      refine Go.l2d X5 hx (hb hby at_113) ?_
      refine Go.dstore X5 hx (l' := #[.val (.int q0), .val (.int q1), .val (.int q2), .val (.int q3), .val (.int q4), .val (.int (q0 &&& (2147483647 : Int32))), .val (.int (q1 &&& (2147483647 : Int32))), .val (.int uu), .val (.int tt), .val (.ref b3), .val (.double (own_af   tt uu)), .second, .val (.long ((tt / uu).toInt64)), .second, .val (.long ((tt % uu).toInt64)), .second, .val (.double (FP.l2d ((tt / uu).toInt64))), .second, .unset, .unset, .unset, .unset, .unset, .unset, .unset, .unset]) (hb hby at_114) rfl ?_
      show Go p_ e_ below _ _ T5 (mkF m_ 116 #[.val (.int q0), .val (.int q1), .val (.int q2), .val (.int q3), .val (.int q4), .val (.int (q0 &&& (2147483647 : Int32))), .val (.int (q1 &&& (2147483647 : Int32))), .val (.int uu), .val (.int tt), .val (.ref b3), .val (.double (own_af   tt uu)), .second, .val (.long ((tt / uu).toInt64)), .second, .val (.long ((tt % uu).toInt64)), .second, .val (.double (FP.l2d ((tt / uu).toInt64))), .second, .unset, .unset, .unset, .unset, .unset, .unset, .unset, .unset] [])
      refine Go.lload X5 hx (hb hby at_116) rfl ?_
      refine Go.lconst X5 hx (1 : Int64) (hb hby at_118) rfl ?_
      refine Go.ladd X5 hx (hb hby at_119) ?_
      refine Go.l2d X5 hx (hb hby at_120) ?_
      refine Go.dstore X5 hx (l' := #[.val (.int q0), .val (.int q1), .val (.int q2), .val (.int q3), .val (.int q4), .val (.int (q0 &&& (2147483647 : Int32))), .val (.int (q1 &&& (2147483647 : Int32))), .val (.int uu), .val (.int tt), .val (.ref b3), .val (.double (own_af   tt uu)), .second, .val (.long ((tt / uu).toInt64)), .second, .val (.long ((tt % uu).toInt64)), .second, .val (.double (FP.l2d ((tt / uu).toInt64))), .second, .val (.double (FP.l2d (((tt / uu).toInt64) + (1 : Int64)))), .second, .unset, .unset, .unset, .unset, .unset, .unset]) (hb hby at_121) rfl ?_
      have j7 : ∀ (T8 : State) (l8 : List Loc) , Stand p_ l e_ room_1 s_ m_ #[(.int q0), (.int q1), (.int q2), (.int q3), (.int q4)] below meth c_ T8 l8 1 4 → Fr n0 l8 → T8.heap = T4.heap → Go p_ e_ below (FE s_ room_1.cells room_1.slots) (Q0 Z q0 q1 q2 q3 q4 h0 n0) T8 (mkF m_ 167 #[.val (.int q0), .val (.int q1), .val (.int q2), .val (.int q3), .val (.int q4), .val (.int (q0 &&& (2147483647 : Int32))), .val (.int (q1 &&& (2147483647 : Int32))), .val (.int uu), .val (.int tt), .val (.ref b3), .val (.double (own_af   tt uu)), .second, .val (.long ((tt / uu).toInt64)), .second, .val (.long ((tt % uu).toInt64)), .second, .val (.double (FP.l2d ((tt / uu).toInt64))), .second, .val (.double (FP.l2d (((tt / uu).toInt64) + (1 : Int64)))), .second, .unset, .unset, .unset, .unset, .unset, .unset] [(.int (1 : Int32))]) := by
        intro T8 l8  X8 N8 e8  
        show Go p_ e_ below _ _ T8 (mkF m_ 167 #[.val (.int q0), .val (.int q1), .val (.int q2), .val (.int q3), .val (.int q4), .val (.int (q0 &&& (2147483647 : Int32))), .val (.int (q1 &&& (2147483647 : Int32))), .val (.int uu), .val (.int tt), .val (.ref b3), .val (.double (own_af   tt uu)), .second, .val (.long ((tt / uu).toInt64)), .second, .val (.long ((tt % uu).toInt64)), .second, .val (.double (FP.l2d ((tt / uu).toInt64))), .second, .val (.double (FP.l2d (((tt / uu).toInt64) + (1 : Int64)))), .second, .unset, .unset, .unset, .unset, .unset, .unset] [(.int (1 : Int32))])
        refine Go.istore X8 hx (l' := #[.val (.int q0), .val (.int q1), .val (.int q2), .val (.int q3), .val (.int q4), .val (.int (q0 &&& (2147483647 : Int32))), .val (.int (q1 &&& (2147483647 : Int32))), .val (.int uu), .val (.int tt), .val (.ref b3), .val (.double (own_af   tt uu)), .second, .val (.long ((tt / uu).toInt64)), .second, .val (.long ((tt % uu).toInt64)), .second, .val (.double (FP.l2d ((tt / uu).toInt64))), .second, .val (.double (FP.l2d (((tt / uu).toInt64) + (1 : Int64)))), .second, .val (.int (1 : Int32)), .unset, .unset, .unset, .unset, .unset]) (hb hby at_167) rfl ?_
        refine Go.dload X8 hx (hb hby at_169) rfl ?_
        refine Go.ldc2D X8 hx hZ hown (hw _ (List.mem_of_getElem? (i := 30) rfl)) (hb hby at_171) ?_
        refine Go.dmul X8 hx (hb hby at_174) (Jvm.Free.Fl.val64_no.mpr (by rw [hA]; exact own_nm hP1.1 hP1.2)) ?_
        refine Go.dstore X8 hx (l' := #[.val (.int q0), .val (.int q1), .val (.int q2), .val (.int q3), .val (.int q4), .val (.int (q0 &&& (2147483647 : Int32))), .val (.int (q1 &&& (2147483647 : Int32))), .val (.int uu), .val (.int tt), .val (.ref b3), .val (.double (own_af   tt uu)), .second, .val (.long ((tt / uu).toInt64)), .second, .val (.long ((tt % uu).toInt64)), .second, .val (.double (FP.l2d ((tt / uu).toInt64))), .second, .val (.double (FP.l2d (((tt / uu).toInt64) + (1 : Int64)))), .second, .val (.int (1 : Int32)), .val (.double (FP.dmul (own_af   tt uu) (4611686018427387904 : UInt64))), .second, .unset, .unset, .unset]) (hb hby at_175) rfl ?_
        refine Go.ldc2J X8 hx hZ hown (hw _ (List.mem_of_getElem? (i := 31) rfl)) (hb hby at_177) ?_
        refine Go.lload X8 hx (hb hby at_180) rfl ?_
        refine Go.lmul X8 hx (hb hby at_182) ?_
        refine Go.lconst X8 hx (1 : Int64) (hb hby at_183) rfl ?_
        refine Go.ladd X8 hx (hb hby at_184) ?_
        refine Go.l2d X8 hx (hb hby at_185) ?_
        refine Go.dstore X8 hx (l' := #[.val (.int q0), .val (.int q1), .val (.int q2), .val (.int q3), .val (.int q4), .val (.int (q0 &&& (2147483647 : Int32))), .val (.int (q1 &&& (2147483647 : Int32))), .val (.int uu), .val (.int tt), .val (.ref b3), .val (.double (own_af   tt uu)), .second, .val (.long ((tt / uu).toInt64)), .second, .val (.long ((tt % uu).toInt64)), .second, .val (.double (FP.l2d ((tt / uu).toInt64))), .second, .val (.double (FP.l2d (((tt / uu).toInt64) + (1 : Int64)))), .second, .val (.int (1 : Int32)), .val (.double (FP.dmul (own_af   tt uu) (4611686018427387904 : UInt64))), .second, .val (.double (FP.l2d (((2 : Int64) * ((tt / uu).toInt64)) + (1 : Int64)))), .second, .unset]) (hb hby at_186) rfl ?_
        have j9 : ∀ (T10 : State) (l10 : List Loc) , Stand p_ l e_ room_1 s_ m_ #[(.int q0), (.int q1), (.int q2), (.int q3), (.int q4)] below meth c_ T10 l10 1 4 → Fr n0 l10 → T10.heap = T4.heap → Go p_ e_ below (FE s_ room_1.cells room_1.slots) (Q0 Z q0 q1 q2 q3 q4 h0 n0) T10 (mkF m_ 265 #[.val (.int q0), .val (.int q1), .val (.int q2), .val (.int q3), .val (.int q4), .val (.int (q0 &&& (2147483647 : Int32))), .val (.int (q1 &&& (2147483647 : Int32))), .val (.int uu), .val (.int tt), .val (.ref b3), .val (.double (own_af   tt uu)), .second, .val (.long ((tt / uu).toInt64)), .second, .val (.long ((tt % uu).toInt64)), .second, .val (.double (FP.l2d ((tt / uu).toInt64))), .second, .val (.double (FP.l2d (((tt / uu).toInt64) + (1 : Int64)))), .second, .val (.int (1 : Int32)), .val (.double (FP.dmul (own_af   tt uu) (4611686018427387904 : UInt64))), .second, .val (.double (FP.l2d (((2 : Int64) * ((tt / uu).toInt64)) + (1 : Int64)))), .second, .val (.int (1 : Int32))] []) := by
          intro T10 l10  X10 N10 e10  
          show Go p_ e_ below _ _ T10 (mkF m_ 265 #[.val (.int q0), .val (.int q1), .val (.int q2), .val (.int q3), .val (.int q4), .val (.int (q0 &&& (2147483647 : Int32))), .val (.int (q1 &&& (2147483647 : Int32))), .val (.int uu), .val (.int tt), .val (.ref b3), .val (.double (own_af   tt uu)), .second, .val (.long ((tt / uu).toInt64)), .second, .val (.long ((tt % uu).toInt64)), .second, .val (.double (FP.l2d ((tt / uu).toInt64))), .second, .val (.double (FP.l2d (((tt / uu).toInt64) + (1 : Int64)))), .second, .val (.int (1 : Int32)), .val (.double (FP.dmul (own_af   tt uu) (4611686018427387904 : UInt64))), .second, .val (.double (FP.l2d (((2 : Int64) * ((tt / uu).toInt64)) + (1 : Int64)))), .second, .val (.int (1 : Int32))] [])
          refine Go.iload X10 hx (hb hby at_265) rfl ?_
          refine Go.ifNo X10 hx (hb hby at_267) ((if0 _ _).trans (feq (by decide)).1) ?_
          show Go p_ e_ below _ _ T10 (mkF m_ 270 #[.val (.int q0), .val (.int q1), .val (.int q2), .val (.int q3), .val (.int q4), .val (.int (q0 &&& (2147483647 : Int32))), .val (.int (q1 &&& (2147483647 : Int32))), .val (.int uu), .val (.int tt), .val (.ref b3), .val (.double (own_af   tt uu)), .second, .val (.long ((tt / uu).toInt64)), .second, .val (.long ((tt % uu).toInt64)), .second, .val (.double (FP.l2d ((tt / uu).toInt64))), .second, .val (.double (FP.l2d (((tt / uu).toInt64) + (1 : Int64)))), .second, .val (.int (1 : Int32)), .val (.double (FP.dmul (own_af   tt uu) (4611686018427387904 : UInt64))), .second, .val (.double (FP.l2d (((2 : Int64) * ((tt / uu).toInt64)) + (1 : Int64)))), .second, .val (.int (1 : Int32))] [])
          refine Go.iload X10 hx (hb hby at_270) rfl ?_
          refine Go.ifNo X10 hx (hb hby at_272) ((if0 _ _).trans (feq (by decide)).1) ?_
          show Go p_ e_ below _ _ T10 (mkF m_ 275 #[.val (.int q0), .val (.int q1), .val (.int q2), .val (.int q3), .val (.int q4), .val (.int (q0 &&& (2147483647 : Int32))), .val (.int (q1 &&& (2147483647 : Int32))), .val (.int uu), .val (.int tt), .val (.ref b3), .val (.double (own_af   tt uu)), .second, .val (.long ((tt / uu).toInt64)), .second, .val (.long ((tt % uu).toInt64)), .second, .val (.double (FP.l2d ((tt / uu).toInt64))), .second, .val (.double (FP.l2d (((tt / uu).toInt64) + (1 : Int64)))), .second, .val (.int (1 : Int32)), .val (.double (FP.dmul (own_af   tt uu) (4611686018427387904 : UInt64))), .second, .val (.double (FP.l2d (((2 : Int64) * ((tt / uu).toInt64)) + (1 : Int64)))), .second, .val (.int (1 : Int32))] [])
          refine Go.dload X10 hx (hb hby at_275) rfl ?_
          refine Go.dconst1 X10 hx (hb hby at_277) ?_
          obtain ⟨vz, ez, gz⟩ := own_last hP1
          refine Go.dcmp X10 hx (v := vz) (hb hby at_278) (by rw [hA]; exact ez) ?_
          refine Go.ifNo X10 hx (hb hby at_279) ((if0 _ _).trans (flt gz).1) ?_
          show Go p_ e_ below _ _ T10 (mkF m_ 282 #[.val (.int q0), .val (.int q1), .val (.int q2), .val (.int q3), .val (.int q4), .val (.int (q0 &&& (2147483647 : Int32))), .val (.int (q1 &&& (2147483647 : Int32))), .val (.int uu), .val (.int tt), .val (.ref b3), .val (.double (own_af   tt uu)), .second, .val (.long ((tt / uu).toInt64)), .second, .val (.long ((tt % uu).toInt64)), .second, .val (.double (FP.l2d ((tt / uu).toInt64))), .second, .val (.double (FP.l2d (((tt / uu).toInt64) + (1 : Int64)))), .second, .val (.int (1 : Int32)), .val (.double (FP.dmul (own_af   tt uu) (4611686018427387904 : UInt64))), .second, .val (.double (FP.l2d (((2 : Int64) * ((tt / uu).toInt64)) + (1 : Int64)))), .second, .val (.int (1 : Int32))] [])
          refine Go.iconst X10 hx (1 : Int32) (hb hby at_282) rfl ?_
          refine Go.goto X10 hx (pc' := 287) (hb hby at_283) (by decide) (by decide) ?_
          refine Go.retN X10 hx hret hlk (by simp) (hb hby at_287) (by decide) (by decide) ?_
          exact ⟨rfl, N10⟩
        refine Go.ldc2J X8 hx hZ hown (hw _ (List.mem_of_getElem? (i := 31) rfl)) (hb hby at_188) ?_
        show Go p_ e_ below _ _ T8 (mkF m_ 191 #[.val (.int q0), .val (.int q1), .val (.int q2), .val (.int q3), .val (.int q4), .val (.int (q0 &&& (2147483647 : Int32))), .val (.int (q1 &&& (2147483647 : Int32))), .val (.int uu), .val (.int tt), .val (.ref b3), .val (.double (own_af   tt uu)), .second, .val (.long ((tt / uu).toInt64)), .second, .val (.long ((tt % uu).toInt64)), .second, .val (.double (FP.l2d ((tt / uu).toInt64))), .second, .val (.double (FP.l2d (((tt / uu).toInt64) + (1 : Int64)))), .second, .val (.int (1 : Int32)), .val (.double (FP.dmul (own_af   tt uu) (4611686018427387904 : UInt64))), .second, .val (.double (FP.l2d (((2 : Int64) * ((tt / uu).toInt64)) + (1 : Int64)))), .second, .unset] [(.long (2 : Int64))])
        refine Go.lload X8 hx (hb hby at_191) rfl ?_
        refine Go.lmul X8 hx (hb hby at_193) ?_
        refine Go.iload X8 hx (hb hby at_194) rfl ?_
        refine Go.i2l X8 hx (hb hby at_196) ?_
        refine Go.lcmp X8 hx (hb hby at_197) ?_
        by_cases hc198_11 : ((2 : Int64) * ((tt % uu).toInt64)) < (uu.toInt64)
        · skip
          refine Go.ifNo X8 hx (hb hby at_198) (XT.ll_ge_f hc198_11) ?_
          show Go p_ e_ below _ _ T8 (mkF m_ 201 #[.val (.int q0), .val (.int q1), .val (.int q2), .val (.int q3), .val (.int q4), .val (.int (q0 &&& (2147483647 : Int32))), .val (.int (q1 &&& (2147483647 : Int32))), .val (.int uu), .val (.int tt), .val (.ref b3), .val (.double (own_af   tt uu)), .second, .val (.long ((tt / uu).toInt64)), .second, .val (.long ((tt % uu).toInt64)), .second, .val (.double (FP.l2d ((tt / uu).toInt64))), .second, .val (.double (FP.l2d (((tt / uu).toInt64) + (1 : Int64)))), .second, .val (.int (1 : Int32)), .val (.double (FP.dmul (own_af   tt uu) (4611686018427387904 : UInt64))), .second, .val (.double (FP.l2d (((2 : Int64) * ((tt / uu).toInt64)) + (1 : Int64)))), .second, .unset] [])
          refine Go.dload X8 hx (hb hby at_201) rfl ?_
          refine Go.dload X8 hx (hb hby at_203) rfl ?_
          refine Go.dcmp X8 hx (v := (-1 : Int32)) (hb hby at_205) (by rw [hA, own_g1 hP1.1 hP1.2 hc198_11]; rfl) ?_
          refine Go.ifNo X8 hx (hb hby at_206) ((if0 _ _).trans (tlt (by decide)).2.1) ?_
          show Go p_ e_ below _ _ T8 (mkF m_ 209 #[.val (.int q0), .val (.int q1), .val (.int q2), .val (.int q3), .val (.int q4), .val (.int (q0 &&& (2147483647 : Int32))), .val (.int (q1 &&& (2147483647 : Int32))), .val (.int uu), .val (.int tt), .val (.ref b3), .val (.double (own_af   tt uu)), .second, .val (.long ((tt / uu).toInt64)), .second, .val (.long ((tt % uu).toInt64)), .second, .val (.double (FP.l2d ((tt / uu).toInt64))), .second, .val (.double (FP.l2d (((tt / uu).toInt64) + (1 : Int64)))), .second, .val (.int (1 : Int32)), .val (.double (FP.dmul (own_af   tt uu) (4611686018427387904 : UInt64))), .second, .val (.double (FP.l2d (((2 : Int64) * ((tt / uu).toInt64)) + (1 : Int64)))), .second, .unset] [])
          refine Go.iconst X8 hx (1 : Int32) (hb hby at_209) rfl ?_
          refine Go.goto X8 hx (pc' := 214) (hb hby at_210) (by decide) (by decide) ?_
          refine Go.istore X8 hx (l' := #[.val (.int q0), .val (.int q1), .val (.int q2), .val (.int q3), .val (.int q4), .val (.int (q0 &&& (2147483647 : Int32))), .val (.int (q1 &&& (2147483647 : Int32))), .val (.int uu), .val (.int tt), .val (.ref b3), .val (.double (own_af   tt uu)), .second, .val (.long ((tt / uu).toInt64)), .second, .val (.long ((tt % uu).toInt64)), .second, .val (.double (FP.l2d ((tt / uu).toInt64))), .second, .val (.double (FP.l2d (((tt / uu).toInt64) + (1 : Int64)))), .second, .val (.int (1 : Int32)), .val (.double (FP.dmul (own_af   tt uu) (4611686018427387904 : UInt64))), .second, .val (.double (FP.l2d (((2 : Int64) * ((tt / uu).toInt64)) + (1 : Int64)))), .second, .val (.int (1 : Int32))]) (hb hby at_214) rfl ?_
          refine Go.goto X8 hx (pc' := 265) (hb hby at_216) (by decide) (by decide) ?_
          show Go p_ e_ below _ _ T8 (mkF m_ 265 #[.val (.int q0), .val (.int q1), .val (.int q2), .val (.int q3), .val (.int q4), .val (.int (q0 &&& (2147483647 : Int32))), .val (.int (q1 &&& (2147483647 : Int32))), .val (.int uu), .val (.int tt), .val (.ref b3), .val (.double (own_af   tt uu)), .second, .val (.long ((tt / uu).toInt64)), .second, .val (.long ((tt % uu).toInt64)), .second, .val (.double (FP.l2d ((tt / uu).toInt64))), .second, .val (.double (FP.l2d (((tt / uu).toInt64) + (1 : Int64)))), .second, .val (.int (1 : Int32)), .val (.double (FP.dmul (own_af   tt uu) (4611686018427387904 : UInt64))), .second, .val (.double (FP.l2d (((2 : Int64) * ((tt / uu).toInt64)) + (1 : Int64)))), .second, .val (.int (1 : Int32))] [])
          exact j9 _ _  X8 N8 e8 
        · skip
          refine Go.ifYes X8 hx (pc' := 219) (hb hby at_198) (XT.ll_ge_t hc198_11) (by decide) (by decide) ?_
          show Go p_ e_ below _ _ T8 (mkF m_ 219 #[.val (.int q0), .val (.int q1), .val (.int q2), .val (.int q3), .val (.int q4), .val (.int (q0 &&& (2147483647 : Int32))), .val (.int (q1 &&& (2147483647 : Int32))), .val (.int uu), .val (.int tt), .val (.ref b3), .val (.double (own_af   tt uu)), .second, .val (.long ((tt / uu).toInt64)), .second, .val (.long ((tt % uu).toInt64)), .second, .val (.double (FP.l2d ((tt / uu).toInt64))), .second, .val (.double (FP.l2d (((tt / uu).toInt64) + (1 : Int64)))), .second, .val (.int (1 : Int32)), .val (.double (FP.dmul (own_af   tt uu) (4611686018427387904 : UInt64))), .second, .val (.double (FP.l2d (((2 : Int64) * ((tt / uu).toInt64)) + (1 : Int64)))), .second, .unset] [])
          refine Go.ldc2J X8 hx hZ hown (hw _ (List.mem_of_getElem? (i := 31) rfl)) (hb hby at_219) ?_
          refine Go.lload X8 hx (hb hby at_222) rfl ?_
          refine Go.lmul X8 hx (hb hby at_224) ?_
          refine Go.iload X8 hx (hb hby at_225) rfl ?_
          refine Go.i2l X8 hx (hb hby at_227) ?_
          refine Go.lcmp X8 hx (hb hby at_228) ?_
          by_cases hc229_12 : ((2 : Int64) * ((tt % uu).toInt64)) = (uu.toInt64)
          · skip
            refine Go.ifNo X8 hx (hb hby at_229) (XT.ll_ne_f hc229_12) ?_
            show Go p_ e_ below _ _ T8 (mkF m_ 232 #[.val (.int q0), .val (.int q1), .val (.int q2), .val (.int q3), .val (.int q4), .val (.int (q0 &&& (2147483647 : Int32))), .val (.int (q1 &&& (2147483647 : Int32))), .val (.int uu), .val (.int tt), .val (.ref b3), .val (.double (own_af   tt uu)), .second, .val (.long ((tt / uu).toInt64)), .second, .val (.long ((tt % uu).toInt64)), .second, .val (.double (FP.l2d ((tt / uu).toInt64))), .second, .val (.double (FP.l2d (((tt / uu).toInt64) + (1 : Int64)))), .second, .val (.int (1 : Int32)), .val (.double (FP.dmul (own_af   tt uu) (4611686018427387904 : UInt64))), .second, .val (.double (FP.l2d (((2 : Int64) * ((tt / uu).toInt64)) + (1 : Int64)))), .second, .unset] [])
            refine Go.dload X8 hx (hb hby at_232) rfl ?_
            refine Go.dload X8 hx (hb hby at_234) rfl ?_
            refine Go.dcmp X8 hx (v := (0 : Int32)) (hb hby at_236) (by rw [hA, own_g0 hP1.1 hP1.2 hc229_12]; rfl) ?_
            refine Go.ifNo X8 hx (hb hby at_237) ((if0 _ _).trans (teq (by decide)).2) ?_
            show Go p_ e_ below _ _ T8 (mkF m_ 240 #[.val (.int q0), .val (.int q1), .val (.int q2), .val (.int q3), .val (.int q4), .val (.int (q0 &&& (2147483647 : Int32))), .val (.int (q1 &&& (2147483647 : Int32))), .val (.int uu), .val (.int tt), .val (.ref b3), .val (.double (own_af   tt uu)), .second, .val (.long ((tt / uu).toInt64)), .second, .val (.long ((tt % uu).toInt64)), .second, .val (.double (FP.l2d ((tt / uu).toInt64))), .second, .val (.double (FP.l2d (((tt / uu).toInt64) + (1 : Int64)))), .second, .val (.int (1 : Int32)), .val (.double (FP.dmul (own_af   tt uu) (4611686018427387904 : UInt64))), .second, .val (.double (FP.l2d (((2 : Int64) * ((tt / uu).toInt64)) + (1 : Int64)))), .second, .unset] [])
            refine Go.iconst X8 hx (1 : Int32) (hb hby at_240) rfl ?_
            refine Go.goto X8 hx (pc' := 245) (hb hby at_241) (by decide) (by decide) ?_
            refine Go.istore X8 hx (l' := #[.val (.int q0), .val (.int q1), .val (.int q2), .val (.int q3), .val (.int q4), .val (.int (q0 &&& (2147483647 : Int32))), .val (.int (q1 &&& (2147483647 : Int32))), .val (.int uu), .val (.int tt), .val (.ref b3), .val (.double (own_af   tt uu)), .second, .val (.long ((tt / uu).toInt64)), .second, .val (.long ((tt % uu).toInt64)), .second, .val (.double (FP.l2d ((tt / uu).toInt64))), .second, .val (.double (FP.l2d (((tt / uu).toInt64) + (1 : Int64)))), .second, .val (.int (1 : Int32)), .val (.double (FP.dmul (own_af   tt uu) (4611686018427387904 : UInt64))), .second, .val (.double (FP.l2d (((2 : Int64) * ((tt / uu).toInt64)) + (1 : Int64)))), .second, .val (.int (1 : Int32))]) (hb hby at_245) rfl ?_
            refine Go.goto X8 hx (pc' := 265) (hb hby at_247) (by decide) (by decide) ?_
            show Go p_ e_ below _ _ T8 (mkF m_ 265 #[.val (.int q0), .val (.int q1), .val (.int q2), .val (.int q3), .val (.int q4), .val (.int (q0 &&& (2147483647 : Int32))), .val (.int (q1 &&& (2147483647 : Int32))), .val (.int uu), .val (.int tt), .val (.ref b3), .val (.double (own_af   tt uu)), .second, .val (.long ((tt / uu).toInt64)), .second, .val (.long ((tt % uu).toInt64)), .second, .val (.double (FP.l2d ((tt / uu).toInt64))), .second, .val (.double (FP.l2d (((tt / uu).toInt64) + (1 : Int64)))), .second, .val (.int (1 : Int32)), .val (.double (FP.dmul (own_af   tt uu) (4611686018427387904 : UInt64))), .second, .val (.double (FP.l2d (((2 : Int64) * ((tt / uu).toInt64)) + (1 : Int64)))), .second, .val (.int (1 : Int32))] [])
            exact j9 _ _  X8 N8 e8 
          · skip
            refine Go.ifYes X8 hx (pc' := 250) (hb hby at_229) (XT.ll_ne_t hc229_12) (by decide) (by decide) ?_
            show Go p_ e_ below _ _ T8 (mkF m_ 250 #[.val (.int q0), .val (.int q1), .val (.int q2), .val (.int q3), .val (.int q4), .val (.int (q0 &&& (2147483647 : Int32))), .val (.int (q1 &&& (2147483647 : Int32))), .val (.int uu), .val (.int tt), .val (.ref b3), .val (.double (own_af   tt uu)), .second, .val (.long ((tt / uu).toInt64)), .second, .val (.long ((tt % uu).toInt64)), .second, .val (.double (FP.l2d ((tt / uu).toInt64))), .second, .val (.double (FP.l2d (((tt / uu).toInt64) + (1 : Int64)))), .second, .val (.int (1 : Int32)), .val (.double (FP.dmul (own_af   tt uu) (4611686018427387904 : UInt64))), .second, .val (.double (FP.l2d (((2 : Int64) * ((tt / uu).toInt64)) + (1 : Int64)))), .second, .unset] [])
            refine Go.dload X8 hx (hb hby at_250) rfl ?_
            refine Go.dload X8 hx (hb hby at_252) rfl ?_
            refine Go.dcmp X8 hx (v := (1 : Int32)) (hb hby at_254) (by rw [hA, own_g2 hP1.1 hP1.2 hc198_11 hc229_12]; rfl) ?_
            refine Go.ifNo X8 hx (hb hby at_255) ((if0 _ _).trans (tlt (by decide)).2.2.2) ?_
            show Go p_ e_ below _ _ T8 (mkF m_ 258 #[.val (.int q0), .val (.int q1), .val (.int q2), .val (.int q3), .val (.int q4), .val (.int (q0 &&& (2147483647 : Int32))), .val (.int (q1 &&& (2147483647 : Int32))), .val (.int uu), .val (.int tt), .val (.ref b3), .val (.double (own_af   tt uu)), .second, .val (.long ((tt / uu).toInt64)), .second, .val (.long ((tt % uu).toInt64)), .second, .val (.double (FP.l2d ((tt / uu).toInt64))), .second, .val (.double (FP.l2d (((tt / uu).toInt64) + (1 : Int64)))), .second, .val (.int (1 : Int32)), .val (.double (FP.dmul (own_af   tt uu) (4611686018427387904 : UInt64))), .second, .val (.double (FP.l2d (((2 : Int64) * ((tt / uu).toInt64)) + (1 : Int64)))), .second, .unset] [])
            refine Go.iconst X8 hx (1 : Int32) (hb hby at_258) rfl ?_
            refine Go.goto X8 hx (pc' := 263) (hb hby at_259) (by decide) (by decide) ?_
            refine Go.istore X8 hx (l' := #[.val (.int q0), .val (.int q1), .val (.int q2), .val (.int q3), .val (.int q4), .val (.int (q0 &&& (2147483647 : Int32))), .val (.int (q1 &&& (2147483647 : Int32))), .val (.int uu), .val (.int tt), .val (.ref b3), .val (.double (own_af   tt uu)), .second, .val (.long ((tt / uu).toInt64)), .second, .val (.long ((tt % uu).toInt64)), .second, .val (.double (FP.l2d ((tt / uu).toInt64))), .second, .val (.double (FP.l2d (((tt / uu).toInt64) + (1 : Int64)))), .second, .val (.int (1 : Int32)), .val (.double (FP.dmul (own_af   tt uu) (4611686018427387904 : UInt64))), .second, .val (.double (FP.l2d (((2 : Int64) * ((tt / uu).toInt64)) + (1 : Int64)))), .second, .val (.int (1 : Int32))]) (hb hby at_263) rfl ?_
            show Go p_ e_ below _ _ T8 (mkF m_ 265 #[.val (.int q0), .val (.int q1), .val (.int q2), .val (.int q3), .val (.int q4), .val (.int (q0 &&& (2147483647 : Int32))), .val (.int (q1 &&& (2147483647 : Int32))), .val (.int uu), .val (.int tt), .val (.ref b3), .val (.double (own_af   tt uu)), .second, .val (.long ((tt / uu).toInt64)), .second, .val (.long ((tt % uu).toInt64)), .second, .val (.double (FP.l2d ((tt / uu).toInt64))), .second, .val (.double (FP.l2d (((tt / uu).toInt64) + (1 : Int64)))), .second, .val (.int (1 : Int32)), .val (.double (FP.dmul (own_af   tt uu) (4611686018427387904 : UInt64))), .second, .val (.double (FP.l2d (((2 : Int64) * ((tt / uu).toInt64)) + (1 : Int64)))), .second, .val (.int (1 : Int32))] [])
            exact j9 _ _  X8 N8 e8 
      refine Go.lload X5 hx (hb hby at_123) rfl ?_
      refine Go.lconst X5 hx (0 : Int64) (hb hby at_125) rfl ?_
      refine Go.lcmp X5 hx (hb hby at_126) ?_
      by_cases hc127_13 : ((tt % uu).toInt64) = (0 : Int64)
      · skip
        refine Go.ifNo X5 hx (hb hby at_127) (XT.ll_ne_f hc127_13) ?_
        show Go p_ e_ below _ _ T5 (mkF m_ 130 #[.val (.int q0), .val (.int q1), .val (.int q2), .val (.int q3), .val (.int q4), .val (.int (q0 &&& (2147483647 : Int32))), .val (.int (q1 &&& (2147483647 : Int32))), .val (.int uu), .val (.int tt), .val (.ref b3), .val (.double (own_af   tt uu)), .second, .val (.long ((tt / uu).toInt64)), .second, .val (.long ((tt % uu).toInt64)), .second, .val (.double (FP.l2d ((tt / uu).toInt64))), .second, .val (.double (FP.l2d (((tt / uu).toInt64) + (1 : Int64)))), .second, .unset, .unset, .unset, .unset, .unset, .unset] [])
        refine Go.dload X5 hx (hb hby at_130) rfl ?_
        refine Go.dload X5 hx (hb hby at_132) rfl ?_
        refine Go.dcmp X5 hx (v := (0 : Int32)) (hb hby at_134) (by rw [hA, own_f0 hP1.1 hP1.2 hc127_13]; rfl) ?_
        refine Go.ifNo X5 hx (hb hby at_135) ((if0 _ _).trans (teq (by decide)).2) ?_
        show Go p_ e_ below _ _ T5 (mkF m_ 138 #[.val (.int q0), .val (.int q1), .val (.int q2), .val (.int q3), .val (.int q4), .val (.int (q0 &&& (2147483647 : Int32))), .val (.int (q1 &&& (2147483647 : Int32))), .val (.int uu), .val (.int tt), .val (.ref b3), .val (.double (own_af   tt uu)), .second, .val (.long ((tt / uu).toInt64)), .second, .val (.long ((tt % uu).toInt64)), .second, .val (.double (FP.l2d ((tt / uu).toInt64))), .second, .val (.double (FP.l2d (((tt / uu).toInt64) + (1 : Int64)))), .second, .unset, .unset, .unset, .unset, .unset, .unset] [])
        refine Go.iconst X5 hx (1 : Int32) (hb hby at_138) rfl ?_
        refine Go.goto X5 hx (pc' := 167) (hb hby at_139) (by decide) (by decide) ?_
        show Go p_ e_ below _ _ T5 (mkF m_ 167 #[.val (.int q0), .val (.int q1), .val (.int q2), .val (.int q3), .val (.int q4), .val (.int (q0 &&& (2147483647 : Int32))), .val (.int (q1 &&& (2147483647 : Int32))), .val (.int uu), .val (.int tt), .val (.ref b3), .val (.double (own_af   tt uu)), .second, .val (.long ((tt / uu).toInt64)), .second, .val (.long ((tt % uu).toInt64)), .second, .val (.double (FP.l2d ((tt / uu).toInt64))), .second, .val (.double (FP.l2d (((tt / uu).toInt64) + (1 : Int64)))), .second, .unset, .unset, .unset, .unset, .unset, .unset] [(.int (1 : Int32))])
        exact j7 _ _  X5 N5 e5 
      · skip
        refine Go.ifYes X5 hx (pc' := 146) (hb hby at_127) (XT.ll_ne_t hc127_13) (by decide) (by decide) ?_
        show Go p_ e_ below _ _ T5 (mkF m_ 146 #[.val (.int q0), .val (.int q1), .val (.int q2), .val (.int q3), .val (.int q4), .val (.int (q0 &&& (2147483647 : Int32))), .val (.int (q1 &&& (2147483647 : Int32))), .val (.int uu), .val (.int tt), .val (.ref b3), .val (.double (own_af   tt uu)), .second, .val (.long ((tt / uu).toInt64)), .second, .val (.long ((tt % uu).toInt64)), .second, .val (.double (FP.l2d ((tt / uu).toInt64))), .second, .val (.double (FP.l2d (((tt / uu).toInt64) + (1 : Int64)))), .second, .unset, .unset, .unset, .unset, .unset, .unset] [])
        refine Go.dload X5 hx (hb hby at_146) rfl ?_
        refine Go.dload X5 hx (hb hby at_148) rfl ?_
        refine Go.dcmp X5 hx (v := (-1 : Int32)) (hb hby at_150) (by rw [hA, own_f1 hP1.1 hP1.2 hc127_13]; rfl) ?_
        refine Go.ifNo X5 hx (hb hby at_151) ((if0 _ _).trans (tlt (by decide)).2.1) ?_
        show Go p_ e_ below _ _ T5 (mkF m_ 154 #[.val (.int q0), .val (.int q1), .val (.int q2), .val (.int q3), .val (.int q4), .val (.int (q0 &&& (2147483647 : Int32))), .val (.int (q1 &&& (2147483647 : Int32))), .val (.int uu), .val (.int tt), .val (.ref b3), .val (.double (own_af   tt uu)), .second, .val (.long ((tt / uu).toInt64)), .second, .val (.long ((tt % uu).toInt64)), .second, .val (.double (FP.l2d ((tt / uu).toInt64))), .second, .val (.double (FP.l2d (((tt / uu).toInt64) + (1 : Int64)))), .second, .unset, .unset, .unset, .unset, .unset, .unset] [])
        refine Go.dload X5 hx (hb hby at_154) rfl ?_
        refine Go.dload X5 hx (hb hby at_156) rfl ?_
        refine Go.dcmp X5 hx (v := (-1 : Int32)) (hb hby at_158) (by rw [hA, own_f2 hP1.1 hP1.2 hc127_13]; rfl) ?_
        refine Go.ifNo X5 hx (hb hby at_159) ((if0 _ _).trans (tlt (by decide)).2.1) ?_
        show Go p_ e_ below _ _ T5 (mkF m_ 162 #[.val (.int q0), .val (.int q1), .val (.int q2), .val (.int q3), .val (.int q4), .val (.int (q0 &&& (2147483647 : Int32))), .val (.int (q1 &&& (2147483647 : Int32))), .val (.int uu), .val (.int tt), .val (.ref b3), .val (.double (own_af   tt uu)), .second, .val (.long ((tt / uu).toInt64)), .second, .val (.long ((tt % uu).toInt64)), .second, .val (.double (FP.l2d ((tt / uu).toInt64))), .second, .val (.double (FP.l2d (((tt / uu).toInt64) + (1 : Int64)))), .second, .unset, .unset, .unset, .unset, .unset, .unset] [])
        refine Go.iconst X5 hx (1 : Int32) (hb hby at_162) rfl ?_
        refine Go.goto X5 hx (pc' := 167) (hb hby at_163) (by decide) (by decide) ?_
        show Go p_ e_ below _ _ T5 (mkF m_ 167 #[.val (.int q0), .val (.int q1), .val (.int q2), .val (.int q3), .val (.int q4), .val (.int (q0 &&& (2147483647 : Int32))), .val (.int (q1 &&& (2147483647 : Int32))), .val (.int uu), .val (.int tt), .val (.ref b3), .val (.double (own_af   tt uu)), .second, .val (.long ((tt / uu).toInt64)), .second, .val (.long ((tt % uu).toInt64)), .second, .val (.double (FP.l2d ((tt / uu).toInt64))), .second, .val (.double (FP.l2d (((tt / uu).toInt64) + (1 : Int64)))), .second, .unset, .unset, .unset, .unset, .unset, .unset] [(.int (1 : Int32))])
        exact j7 _ _  X5 N5 e5 
  refine Go.iloadN X0 hx (hb hby at_12) rfl ?_
  refine Go.iconst X0 hx (3 : Int32) (hb hby at_13) rfl ?_
  refine Go.iand X0 hx (hb hby at_14) ?_
  by_cases hc15_14 : (q2 &&& (3 : Int32)) = (0 : Int32)
  · skip
    refine Go.ifNo X0 hx (hb hby at_15) ((if0 _ _).trans (teq hc15_14).2) ?_
    show Go p_ e_ below _ _ s₁ (mkF m_ 18 #[.val (.int q0), .val (.int q1), .val (.int q2), .val (.int q3), .val (.int q4), .val (.int (q0 &&& (2147483647 : Int32))), .val (.int (q1 &&& (2147483647 : Int32))), .unset, .unset, .unset, .unset, .unset, .unset, .unset, .unset, .unset, .unset, .unset, .unset, .unset, .unset, .unset, .unset, .unset, .unset, .unset] [])
    refine Go.iconst X0 hx (0 : Int32) (hb hby at_18) rfl ?_
    refine Go.istore X0 hx (l' := #[.val (.int q0), .val (.int q1), .val (.int q2), .val (.int q3), .val (.int q4), .val (.int (q0 &&& (2147483647 : Int32))), .val (.int (q1 &&& (2147483647 : Int32))), .val (.int (0 : Int32)), .unset, .unset, .unset, .unset, .unset, .unset, .unset, .unset, .unset, .unset, .unset, .unset, .unset, .unset, .unset, .unset, .unset, .unset]) (hb hby at_19) rfl ?_
    refine Go.iconst X0 hx (0 : Int32) (hb hby at_21) rfl ?_
    refine Go.istore X0 hx (l' := #[.val (.int q0), .val (.int q1), .val (.int q2), .val (.int q3), .val (.int q4), .val (.int (q0 &&& (2147483647 : Int32))), .val (.int (q1 &&& (2147483647 : Int32))), .val (.int (0 : Int32)), .val (.int (0 : Int32)), .unset, .unset, .unset, .unset, .unset, .unset, .unset, .unset, .unset, .unset, .unset, .unset, .unset, .unset, .unset, .unset, .unset]) (hb hby at_22) rfl ?_
    refine Go.goto X0 hx (pc' := 54) (hb hby at_24) (by decide) (by decide) ?_
    show Go p_ e_ below _ _ s₁ (mkF m_ 54 #[.val (.int q0), .val (.int q1), .val (.int q2), .val (.int q3), .val (.int q4), .val (.int (q0 &&& (2147483647 : Int32))), .val (.int (q1 &&& (2147483647 : Int32))), .val (.int (0 : Int32)), .val (.int (0 : Int32)), .unset, .unset, .unset, .unset, .unset, .unset, .unset, .unset, .unset, .unset, .unset, .unset, .unset, .unset, .unset, .unset, .unset] [])
    exact j1 _ _ _ _ X0 N0 e0 (Or.inl ⟨rfl, rfl⟩)
  · skip
    refine Go.ifYes X0 hx (pc' := 27) (hb hby at_15) ((if0 _ _).trans (feq hc15_14).2) (by decide) (by decide) ?_
    show Go p_ e_ below _ _ s₁ (mkF m_ 27 #[.val (.int q0), .val (.int q1), .val (.int q2), .val (.int q3), .val (.int q4), .val (.int (q0 &&& (2147483647 : Int32))), .val (.int (q1 &&& (2147483647 : Int32))), .unset, .unset, .unset, .unset, .unset, .unset, .unset, .unset, .unset, .unset, .unset, .unset, .unset, .unset, .unset, .unset, .unset, .unset, .unset] [])
    refine Go.iconst X0 hx (1 : Int32) (hb hby at_27) rfl ?_
    refine Go.iload X0 hx (hb hby at_28) rfl ?_
    refine Go.iload X0 hx (hb hby at_30) rfl ?_
    refine Go.callS X0 hx hZ (rm1 l Z a0 hw [] (q0 &&& (2147483647 : Int32)) (q1 &&& (2147483647 : Int32))  h0 n0 Z0 ) hown (hw _ (List.mem_of_getElem? (i := 1) rfl)) (hw _ (List.mem_of_getElem? (i := 2) rfl)) (hw _ (List.mem_of_getElem? (i := 3) rfl)) (hw _ (List.mem_of_getElem? (i := 4) rfl)) (by decide) e0 (W := 1) (by rw [hml]; rfl) (argsL := [(.int (q0 &&& (2147483647 : Int32))), (.int (q1 &&& (2147483647 : Int32)))]) (S := [(.int (1 : Int32))]) (Nat.le_of_ble_eq_true rfl) (by decide) (by decide) (by decide) (by decide) pd_oIIcI rfl rfl (hb hby at_32) ?_
    rintro _ T15 L15 X15 ⟨rfl, N15q, e15⟩
    have N15 := Fr.app N0 N15q
    show Go p_ e_ below _ _ T15 (mkF m_ 35 #[.val (.int q0), .val (.int q1), .val (.int q2), .val (.int q3), .val (.int q4), .val (.int (q0 &&& (2147483647 : Int32))), .val (.int (q1 &&& (2147483647 : Int32))), .unset, .unset, .unset, .unset, .unset, .unset, .unset, .unset, .unset, .unset, .unset, .unset, .unset, .unset, .unset, .unset, .unset, .unset, .unset] [(.int (own_min (q0 &&& (2147483647 : Int32)) (q1 &&& (2147483647 : Int32)) )), (.int (1 : Int32))])
    refine Go.callS X15 hx hZ (rm2 l Z a0 hw [] (1 : Int32) (own_min (q0 &&& (2147483647 : Int32)) (q1 &&& (2147483647 : Int32)) )  h0 n0 Z0 ) hown (hw _ (List.mem_of_getElem? (i := 5) rfl)) (hw _ (List.mem_of_getElem? (i := 6) rfl)) (hw _ (List.mem_of_getElem? (i := 3) rfl)) (hw _ (List.mem_of_getElem? (i := 7) rfl)) (by decide) e15 (W := 0) (by rw [hml]; rfl) (argsL := [(.int (1 : Int32)), (.int (own_min (q0 &&& (2147483647 : Int32)) (q1 &&& (2147483647 : Int32)) ))]) (S := []) (Nat.le_of_ble_eq_true rfl) (by decide) (by decide) (by decide) (by decide) pd_oIIcI rfl rfl (hb hby at_35) ?_
    rintro _ T16 L16 X16 ⟨rfl, N16q, e16⟩
    have N16 := Fr.app N15 N16q
    show Go p_ e_ below _ _ T16 (mkF m_ 38 #[.val (.int q0), .val (.int q1), .val (.int q2), .val (.int q3), .val (.int q4), .val (.int (q0 &&& (2147483647 : Int32))), .val (.int (q1 &&& (2147483647 : Int32))), .unset, .unset, .unset, .unset, .unset, .unset, .unset, .unset, .unset, .unset, .unset, .unset, .unset, .unset, .unset, .unset, .unset, .unset, .unset] [(.int (own_max (1 : Int32) (own_min (q0 &&& (2147483647 : Int32)) (q1 &&& (2147483647 : Int32)) ) ))])
    refine Go.istore X16 hx (l' := #[.val (.int q0), .val (.int q1), .val (.int q2), .val (.int q3), .val (.int q4), .val (.int (q0 &&& (2147483647 : Int32))), .val (.int (q1 &&& (2147483647 : Int32))), .val (.int (own_max (1 : Int32) (own_min (q0 &&& (2147483647 : Int32)) (q1 &&& (2147483647 : Int32)) ) )), .unset, .unset, .unset, .unset, .unset, .unset, .unset, .unset, .unset, .unset, .unset, .unset, .unset, .unset, .unset, .unset, .unset, .unset]) (hb hby at_38) rfl ?_
    refine Go.iload X16 hx (hb hby at_40) rfl ?_
    refine Go.iload X16 hx (hb hby at_42) rfl ?_
    refine Go.callS X16 hx hZ (rm2 l Z a0 hw [] (q0 &&& (2147483647 : Int32)) (q1 &&& (2147483647 : Int32))  h0 n0 Z0 ) hown (hw _ (List.mem_of_getElem? (i := 5) rfl)) (hw _ (List.mem_of_getElem? (i := 6) rfl)) (hw _ (List.mem_of_getElem? (i := 3) rfl)) (hw _ (List.mem_of_getElem? (i := 7) rfl)) (by decide) e16 (W := 0) (by rw [hml]; rfl) (argsL := [(.int (q0 &&& (2147483647 : Int32))), (.int (q1 &&& (2147483647 : Int32)))]) (S := []) (Nat.le_of_ble_eq_true rfl) (by decide) (by decide) (by decide) (by decide) pd_oIIcI rfl rfl (hb hby at_44) ?_
    rintro _ T17 L17 X17 ⟨rfl, N17q, e17⟩
    have N17 := Fr.app N16 N17q
    show Go p_ e_ below _ _ T17 (mkF m_ 47 #[.val (.int q0), .val (.int q1), .val (.int q2), .val (.int q3), .val (.int q4), .val (.int (q0 &&& (2147483647 : Int32))), .val (.int (q1 &&& (2147483647 : Int32))), .val (.int (own_max (1 : Int32) (own_min (q0 &&& (2147483647 : Int32)) (q1 &&& (2147483647 : Int32)) ) )), .unset, .unset, .unset, .unset, .unset, .unset, .unset, .unset, .unset, .unset, .unset, .unset, .unset, .unset, .unset, .unset, .unset, .unset] [(.int (own_max (q0 &&& (2147483647 : Int32)) (q1 &&& (2147483647 : Int32)) ))])
    refine Go.iload X17 hx (hb hby at_47) rfl ?_
    refine Go.callS X17 hx hZ (rm2 l Z a0 hw [] (own_max (q0 &&& (2147483647 : Int32)) (q1 &&& (2147483647 : Int32)) ) (own_max (1 : Int32) (own_min (q0 &&& (2147483647 : Int32)) (q1 &&& (2147483647 : Int32)) ) )  h0 n0 Z0 ) hown (hw _ (List.mem_of_getElem? (i := 5) rfl)) (hw _ (List.mem_of_getElem? (i := 6) rfl)) (hw _ (List.mem_of_getElem? (i := 3) rfl)) (hw _ (List.mem_of_getElem? (i := 7) rfl)) (by decide) e17 (W := 0) (by rw [hml]; rfl) (argsL := [(.int (own_max (q0 &&& (2147483647 : Int32)) (q1 &&& (2147483647 : Int32)) )), (.int (own_max (1 : Int32) (own_min (q0 &&& (2147483647 : Int32)) (q1 &&& (2147483647 : Int32)) ) ))]) (S := []) (Nat.le_of_ble_eq_true rfl) (by decide) (by decide) (by decide) (by decide) pd_oIIcI rfl rfl (hb hby at_49) ?_
    rintro _ T18 L18 X18 ⟨rfl, N18q, e18⟩
    have N18 := Fr.app N17 N18q
    show Go p_ e_ below _ _ T18 (mkF m_ 52 #[.val (.int q0), .val (.int q1), .val (.int q2), .val (.int q3), .val (.int q4), .val (.int (q0 &&& (2147483647 : Int32))), .val (.int (q1 &&& (2147483647 : Int32))), .val (.int (own_max (1 : Int32) (own_min (q0 &&& (2147483647 : Int32)) (q1 &&& (2147483647 : Int32)) ) )), .unset, .unset, .unset, .unset, .unset, .unset, .unset, .unset, .unset, .unset, .unset, .unset, .unset, .unset, .unset, .unset, .unset, .unset] [(.int (own_max (own_max (q0 &&& (2147483647 : Int32)) (q1 &&& (2147483647 : Int32)) ) (own_max (1 : Int32) (own_min (q0 &&& (2147483647 : Int32)) (q1 &&& (2147483647 : Int32)) ) ) ))])
    refine Go.istore X18 hx (l' := #[.val (.int q0), .val (.int q1), .val (.int q2), .val (.int q3), .val (.int q4), .val (.int (q0 &&& (2147483647 : Int32))), .val (.int (q1 &&& (2147483647 : Int32))), .val (.int (own_max (1 : Int32) (own_min (q0 &&& (2147483647 : Int32)) (q1 &&& (2147483647 : Int32)) ) )), .val (.int (own_max (own_max (q0 &&& (2147483647 : Int32)) (q1 &&& (2147483647 : Int32)) ) (own_max (1 : Int32) (own_min (q0 &&& (2147483647 : Int32)) (q1 &&& (2147483647 : Int32)) ) ) )), .unset, .unset, .unset, .unset, .unset, .unset, .unset, .unset, .unset, .unset, .unset, .unset, .unset, .unset, .unset, .unset, .unset]) (hb hby at_52) rfl ?_
    show Go p_ e_ below _ _ T18 (mkF m_ 54 #[.val (.int q0), .val (.int q1), .val (.int q2), .val (.int q3), .val (.int q4), .val (.int (q0 &&& (2147483647 : Int32))), .val (.int (q1 &&& (2147483647 : Int32))), .val (.int (own_max (1 : Int32) (own_min (q0 &&& (2147483647 : Int32)) (q1 &&& (2147483647 : Int32)) ) )), .val (.int (own_max (own_max (q0 &&& (2147483647 : Int32)) (q1 &&& (2147483647 : Int32)) ) (own_max (1 : Int32) (own_min (q0 &&& (2147483647 : Int32)) (q1 &&& (2147483647 : Int32)) ) ) )), .unset, .unset, .unset, .unset, .unset, .unset, .unset, .unset, .unset, .unset, .unset, .unset, .unset, .unset, .unset, .unset, .unset] [])
    exact j1 _ _ _ _ X18 N18 e18 (own_mm _ _)
set_option maxRecDepth 65536 in
set_option maxHeartbeats 40000000 in
theorem comes_1 {Post : Tables → Env → Array Value → State → Outcome → State → Prop} (hpost : ∀ tb e args s v u, (limb_1_1.after args s (.returned v) u = true ∧ limb_1_2.after args s (.returned v) u = true ∧ True) → FrameEnd s (.returned v) u (Jvm.fieldLocs frame_1_writes args s ++ Jvm.arrayLocs frame_1_arrays args s ++ Jvm.staticLocs frame_1_statics s) 16 128 → Post tb e args s (.returned v) u) :
    ArmFor flags0 classFile x code maxLocals ret World_1 tables_1 room_1 Calls_1 rest_1 Pre_1 Post := by
  intro l hfl _ _ p e ha hc hk s m args below hf hA hF happ hP
  obtain ⟨hcalls, hrest, hpre⟩ := hP
  obtain ⟨-, -, -, hnamed, -, -, -, hat⟩ := (Spec.applies_iff hf).mp happ
  obtain ⟨hg, hn⟩ := and_e (Cond.before_iff.mp (show (Jvm.Cond.and given_1 narrow_1).before args s = true from hpre))
  obtain ⟨g1, g2⟩ := and_e hg
  obtain ⟨g3, g4⟩ := and_e g2
  obtain ⟨g5, g6⟩ := and_e g4
  obtain ⟨g7, g8⟩ := and_e g6
  obtain ⟨g9, g10⟩ := and_e g8
  obtain ⟨w0, w1, w2, w3, w4, rfl⟩ : ∃ w0 w1 w2 w3 w4 : Value, args = #[w0, w1, w2, w3, w4] := by
    have hs : args.size = 5 := by simpa [Cond.value, given_1] using g1
    obtain ⟨L⟩ := args
    match L, hs with
    | [w0, w1, w2, w3, w4], _ => exact ⟨w0, w1, w2, w3, w4, rfl⟩
  have hw := fun d (hd : d ∈ tables_1) => atoms_spec (ws := Jvm.Cond.code x code maxLocals ret :: tables_1) hat d (List.mem_cons_of_mem _ hd)
  have hfit : Fit s := fun {y c} hc i hi => by
    obtain ⟨ha, rfl⟩ := Array.getElem?_eq_some_iff.mp hc
    have q := List.all_eq_true.mp ((Array.all_eq_true_iff_forall_mem.mp hF) _ (Array.getElem_mem ha)) i (List.mem_range.mpr hi)
    simpa [Array.getElem?_eq_getElem hi] using q
  obtain ⟨i0, ei0⟩ := is_v g3
  obtain rfl : w0 = (.int i0) := Option.some.inj ei0
  obtain ⟨i1, ei1⟩ := is_v g5
  obtain rfl : w1 = (.int i1) := Option.some.inj ei1
  obtain ⟨i2, ei2⟩ := is_v g7
  obtain rfl : w2 = (.int i2) := Option.some.inj ei2
  obtain ⟨i3, ei3⟩ := is_v g9
  obtain rfl : w3 = (.int i3) := Option.some.inj ei3
  obtain ⟨i4, ei4⟩ := is_v g10
  obtain rfl : w4 = (.int i4) := Option.some.inj ei4
  obtain ⟨n, o, h1, h2, h3, _, L, rfl, ⟨rfl, N⟩, hq⟩ := rm0 l s _ hw tables_1 i0 i1 i2 i3 i4  s.heap s.heap.size (Nat.le_refl _)  p e ha hc hk s m _ below hf ((Spec.applies_iff_loose hf).mp happ).1 ⟨rfl, State.Warmed39.refl s, rfl⟩ trivial
  refine ⟨n, _, h1, h2, h3, hpost _ _ _ _ _ _ ⟨Cond.after_iff.mpr rfl, Cond.after_iff.mpr (eq_i res_at (Term.int_eval (1)) rfl), trivial⟩ ⟨hq.1, hq.2.1, (hq.2.2.sift fun y hy => Or.inr (N y hy)).mono (by decide) (by decide)⟩⟩
theorem main_1_1 : Claimed_1_1 := comes_1 fun _ _ _ _ _ _ h hF => ⟨h.1, hF⟩
theorem main_1_2 : Claimed_1_2 := comes_1 fun _ _ _ _ _ _ h hF => ⟨h.2.1, hF⟩
end Jvm.Pilot.@@N@@
namespace Jvm.Pilot.@@N@@
open Jvm Jvm.ClassFile Sem Op Lib Jvm.Free Jvm.Stand Jvm.Pilot.@@N@@.Jvm.D
/-! MADE BY PROGRAM (witnessworld.py) out of the Statement's table words and the real class files: 8 classes; the members and pool entries that the words name. The judged class is class 1, her method 1. -/
namespace start1
open Jvm.ClassFile
def u (s : String) : CpInfo := .utf8 (stringToUtf16 s)
/-- a pool by its gaps: so many unusable entries, then the entry; so many at the end -/
def gap : Nat → List CpInfo → List CpInfo
  | 0, r => r
  | n + 1, r => .unusable :: gap n r
def poolList (es : List (Nat × CpInfo)) (last : Nat) : List CpInfo := es.foldr (fun e r => gap e.1 (e.2 :: r)) (gap last [])
def pool (es : List (Nat × CpInfo)) (last : Nat) : Array CpInfo := ⟨poolList es last⟩
def fileOf (pool : Array CpInfo) (this : Nat) (attrs : Array Attribute := #[]) (ms : Array MethodInfo := #[]) (fl : Nat := 33) (sup : Nat := 0) (ifs : Array Nat := #[]) (fds : Array FieldInfo := #[]) : ClassFile where
  minorVersion := 0
  majorVersion := 65
  constantPool := pool
  accessFlags := fl
  thisClass := this
  superClass := sup
  interfaces := ifs
  fields := fds
  methods := ms
  attributes := attrs
def plain (name : String) (sup : Option ClassId) : Class where
  name := name
  kind := .ordinary
  loader := none
  accessFlags := 33
  super := sup
  interfaces := #[]
  cf := none
  fields := #[]
  methods := #[]
  instanceTypes := #[]
  staticTypes := #[]
  resolved := #[]
  callSites := []
  init := .initialized
  statics := none
  mirror := none

def pool0 : Array CpInfo := pool [(5, u "<init>"), (0, u "()V"), (1, .class_ 10), (1, u "java/lang/Object")] 113

def k0c0 : Code := { maxStack := 0, maxLocals := 1, code := object_method_1_code, exceptionTable := #[], attributes := #[] }
def k0m0 : Method := { name := "<init>", desc := "()V", sig := { parameters := [], returnType := none }, accessFlags := 1, code := some k0c0 }
/-- java/lang/Object -/
def k0 : Class := { plain "java/lang/Object" none with
  accessFlags := 33
  interfaces := #[]
  cf := some (fileOf pool0 8 #[] #[{ accessFlags := 1, nameIndex := 5, descriptorIndex := 6, attributes := #[] }] 33 0 #[] #[])
  fields := #[]
  methods := #[k0m0]
  instanceTypes := #[]
  staticTypes := #[]
  resolved := Array.replicate 124 none
  statics := none }

def pool1 : Array CpInfo := pool [(2, .class_ 4), (1, u "java/lang/Object"), (0, u "<init>"), (0, u "()V"), (0, .integer 2147483647), (0, .methodref 9 10), (0, .class_ 11), (0, .nameAndType 12 13), (0, u "java/lang/Math"), (0, u "min"), (0, u "(II)I"), (0, .methodref 9 15), (0, .nameAndType 16 13), (0, u "max"), (0, .class_ 18), (0, u "com/example/kosine/kosine/rank/TextStatistics"), (0, .methodref 17 20), (0, .nameAndType 5 21), (0, u "(IIII)V"), (0, .methodref 17 23), (0, .nameAndType 24 25), (0, u "averageFrequency"), (0, u "()D"), (0, .double 4611686018427387904), (1, .long 2), (1, .class_ 31), (0, u "com/example/kosine/kosine/rank/TextStatisticsAverageFrequencyPinLaw"), (2, u "law"), (0, u "(IIIII)Z")] 3

def k1m0 : Method := { name := "<init>", desc := "()V", sig := { parameters := [], returnType := none }, accessFlags := 2, code := none }
def k1c1 : Code := { maxStack := 6, maxLocals := 26, code := code, exceptionTable := #[], attributes := #[] }
def k1m1 : Method := { name := "law", desc := "(IIIII)Z", sig := { parameters := [.int, .int, .int, .int, .int], returnType := some .boolean }, accessFlags := 9, code := some k1c1 }
/-- com/example/kosine/kosine/rank/TextStatisticsAverageFrequencyPinLaw -/
def k1 : Class := { plain "com/example/kosine/kosine/rank/TextStatisticsAverageFrequencyPinLaw" (some 0) with
  accessFlags := 49
  interfaces := #[]
  cf := some (fileOf pool1 30 #[] #[{ accessFlags := 2, nameIndex := 5, descriptorIndex := 6, attributes := #[] }, { accessFlags := 9, nameIndex := 34, descriptorIndex := 35, attributes := #[] }] 49 2 #[] #[])
  fields := #[]
  methods := #[k1m0, k1m1]
  instanceTypes := #[]
  staticTypes := #[]
  resolved := Array.replicate 39 none
  statics := none }

def pool2 : Array CpInfo := pool [(1, .class_ 2), (0, u "java/lang/Math"), (1, .class_ 6), (1, u "java/lang/Object"), (0, u "<init>"), (0, u "()V"), (89, .class_ 100), (1, u "java/lang/Math$RandomNumberGeneratorHolder"), (71, u "negativeZeroFloatBits"), (0, u "J"), (2, u "negativeZeroDoubleBits"), (21, u "max"), (2, u "min"), (43, u "$assertionsDisabled"), (0, u "Z"), (88, u "(II)I"), (2, u "twoToTheDoubleScaleDown"), (0, u "D"), (4, u "twoToTheDoubleScaleUp"), (9, u "E"), (3, u "PI"), (2, u "TAU"), (2, u "DEGREES_TO_RADIANS"), (0, u "RADIANS_TO_DEGREES")] 94

def k2m0 : Method := { name := "<init>", desc := "()V", sig := { parameters := [], returnType := none }, accessFlags := 2, code := none }
def k2c1 : Code := { maxStack := 2, maxLocals := 2, code := jdk_29_method_65_code, exceptionTable := #[], attributes := #[] }
def k2m1 : Method := { name := "max", desc := "(II)I", sig := { parameters := [.int, .int], returnType := some .int }, accessFlags := 9, code := some k2c1 }
def k2c2 : Code := { maxStack := 2, maxLocals := 2, code := jdk_29_method_69_code, exceptionTable := #[], attributes := #[] }
def k2m2 : Method := { name := "min", desc := "(II)I", sig := { parameters := [.int, .int], returnType := some .int }, accessFlags := 9, code := some k2c2 }
/-- java/lang/Math -/
def k2 : Class := { plain "java/lang/Math" (some 0) with
  accessFlags := 49
  interfaces := #[]
  cf := some (fileOf pool2 1 #[.nestMembers #[98]] #[{ accessFlags := 2, nameIndex := 7, descriptorIndex := 8, attributes := #[] }, { accessFlags := 9, nameIndex := 198, descriptorIndex := 335, attributes := #[] }, { accessFlags := 9, nameIndex := 201, descriptorIndex := 335, attributes := #[] }] 49 4 #[] #[{ accessFlags := 25, nameIndex := 354, descriptorIndex := 339, attributes := #[] }, { accessFlags := 25, nameIndex := 358, descriptorIndex := 339, attributes := #[] }, { accessFlags := 25, nameIndex := 361, descriptorIndex := 339, attributes := #[] }, { accessFlags := 26, nameIndex := 364, descriptorIndex := 339, attributes := #[] }, { accessFlags := 26, nameIndex := 365, descriptorIndex := 339, attributes := #[] }, { accessFlags := 26, nameIndex := 172, descriptorIndex := 173, attributes := #[] }, { accessFlags := 26, nameIndex := 176, descriptorIndex := 173, attributes := #[] }, { accessFlags := 8, nameIndex := 344, descriptorIndex := 339, attributes := #[] }, { accessFlags := 8, nameIndex := 338, descriptorIndex := 339, attributes := #[] }, { accessFlags := 4120, nameIndex := 245, descriptorIndex := 246, attributes := #[] }])
  fields := #[{ name := "E", type := .double, accessFlags := 25, slot := 0, constantValue := 0 }, { name := "PI", type := .double, accessFlags := 25, slot := 1, constantValue := 0 }, { name := "TAU", type := .double, accessFlags := 25, slot := 2, constantValue := 0 }, { name := "DEGREES_TO_RADIANS", type := .double, accessFlags := 26, slot := 3, constantValue := 0 }, { name := "RADIANS_TO_DEGREES", type := .double, accessFlags := 26, slot := 4, constantValue := 0 }, { name := "negativeZeroFloatBits", type := .long, accessFlags := 26, slot := 5, constantValue := 0 }, { name := "negativeZeroDoubleBits", type := .long, accessFlags := 26, slot := 6, constantValue := 0 }, { name := "twoToTheDoubleScaleUp", type := .double, accessFlags := 8, slot := 7, constantValue := 0 }, { name := "twoToTheDoubleScaleDown", type := .double, accessFlags := 8, slot := 8, constantValue := 0 }, { name := "$assertionsDisabled", type := .boolean, accessFlags := 4120, slot := 9, constantValue := 0 }]
  methods := #[k2m0, k2m1, k2m2]
  instanceTypes := #[]
  staticTypes := #[.double, .double, .double, .double, .double, .long, .long, .double, .double, .boolean]
  resolved := Array.replicate 460 none
  statics := none }

def pool3 : Array CpInfo := pool [(1, .methodref 2 3), (0, .class_ 4), (0, .nameAndType 5 6), (0, u "java/lang/Object"), (0, u "<init>"), (0, u "()V"), (0, .fieldref 8 9), (0, .class_ 10), (0, .nameAndType 11 12), (0, u "com/example/kosine/kosine/rank/TextStatistics"), (0, u "termCount"), (0, u "I"), (0, .fieldref 8 14), (0, .nameAndType 15 12), (0, u "uniqueTermCount"), (0, .fieldref 8 17), (0, .nameAndType 18 12), (0, u "maxFrequency"), (0, .fieldref 8 20), (0, .nameAndType 21 12), (0, u "byteLength"), (0, u "(IIII)V"), (3, u "averageFrequency"), (0, u "()D")] 3

def k3c0 : Code := { maxStack := 2, maxLocals := 5, code := prog_31_method_1_code, exceptionTable := #[], attributes := #[] }
def k3m0 : Method := { name := "<init>", desc := "(IIII)V", sig := { parameters := [.int, .int, .int, .int], returnType := none }, accessFlags := 1, code := some k3c0 }
def k3c1 : Code := { maxStack := 4, maxLocals := 1, code := prog_31_method_6_code, exceptionTable := #[], attributes := #[] }
def k3m1 : Method := { name := "averageFrequency", desc := "()D", sig := { parameters := [], returnType := some .double }, accessFlags := 1, code := some k3c1 }
/-- com/example/kosine/kosine/rank/TextStatistics -/
def k3 : Class := { plain "com/example/kosine/kosine/rank/TextStatistics" (some 0) with
  accessFlags := 33
  interfaces := #[]
  cf := some (fileOf pool3 8 #[] #[{ accessFlags := 1, nameIndex := 5, descriptorIndex := 22, attributes := #[] }, { accessFlags := 1, nameIndex := 26, descriptorIndex := 27, attributes := #[] }] 33 2 #[] #[{ accessFlags := 18, nameIndex := 11, descriptorIndex := 12, attributes := #[] }, { accessFlags := 18, nameIndex := 15, descriptorIndex := 12, attributes := #[] }, { accessFlags := 18, nameIndex := 18, descriptorIndex := 12, attributes := #[] }, { accessFlags := 18, nameIndex := 21, descriptorIndex := 12, attributes := #[] }])
  fields := #[{ name := "termCount", type := .int, accessFlags := 18, slot := 0, constantValue := 0 }, { name := "uniqueTermCount", type := .int, accessFlags := 18, slot := 1, constantValue := 0 }, { name := "maxFrequency", type := .int, accessFlags := 18, slot := 2, constantValue := 0 }, { name := "byteLength", type := .int, accessFlags := 18, slot := 3, constantValue := 0 }]
  methods := #[k3m0, k3m1]
  instanceTypes := #[.int, .int, .int, .int]
  staticTypes := #[]
  resolved := Array.replicate 31 none
  statics := none }

def pool4 : Array CpInfo := pool [(1, u "java/lang/Cloneable"), (0, .class_ 1), (0, u "java/lang/Object"), (0, .class_ 3)] 3

/-- java/lang/Cloneable -/
def k4 : Class := { plain "java/lang/Cloneable" (some 0) with
  accessFlags := 1537
  interfaces := #[]
  cf := some (fileOf pool4 2 #[] #[] 1537 4 #[] #[])
  fields := #[]
  methods := #[]
  instanceTypes := #[]
  staticTypes := #[]
  resolved := Array.replicate 8 none
  statics := none }

def pool5 : Array CpInfo := pool [(1, u "java/io/Serializable"), (0, .class_ 1), (0, u "java/lang/Object"), (0, .class_ 3)] 3

/-- java/io/Serializable -/
def k5 : Class := { plain "java/io/Serializable" (some 0) with
  accessFlags := 1537
  interfaces := #[]
  cf := some (fileOf pool5 2 #[] #[] 1537 4 #[] #[])
  fields := #[]
  methods := #[]
  instanceTypes := #[]
  staticTypes := #[]
  resolved := Array.replicate 8 none
  statics := none }

/-- the primitive byte -/
def k6 : Class := { plain "byte" none with kind := .primitive 'B', accessFlags := 0x411 }
/-- [B -/
def k7 : Class := { plain "[B" (some 0) with kind := .array 6 .byte, interfaces := #[4, 5], accessFlags := 1041 }

def heap : Heap := #[]
def classes : Array Class := #[k0, k1, k2, k3, k4, k5, k6, k7]
def interned : List (Array UInt16 × Addr) := []
def slotsUsed : Nat := 0
def theMethod : MethodId := ⟨1, 1⟩
def args0 : Array Value := #[.int 7, .int 3, .int 1, .int 4, .int 5]
def aboutOver (below : List Frame) : State where
  vm := { classes := classes, interned := interned.toArray }
  heap := heap
  slotsUsed := slotsUsed
  threads := #[{ frames := .invoking theMethod args0 :: below }]
def below0 : List Frame := [.native { method := ⟨0, 0⟩, args := #[] }]
def about1 : State := aboutOver below0
def p0 : Program := .bare "" "" ""
def e0 : Env := launch0.env 0 0 0
theorem w_frames : about1.frames = Frame.invoking theMethod args0 :: below0 := rfl
set_option maxRecDepth 65536 in
theorem w_args : argsFit about1.vm theMethod args0 = true := by decide +kernel
set_option maxRecDepth 65536 in
theorem w_heap : heapFits about1 = true := by decide +kernel
set_option maxRecDepth 65536 in
theorem w_runnable : about1.curStatus? = some .runnable := by decide +kernel
set_option maxRecDepth 65536 in
theorem w_alone : about1.alone = true := by decide +kernel
set_option maxRecDepth 65536 in
theorem w_named : about1.methodNamed? x = some theMethod := by decide +kernel
set_option maxRecDepth 65536 in
theorem w_hears : about1.hears theMethod below0 = true := by decide +kernel
set_option maxRecDepth 65536 in
theorem w_ripe : about1.ripe theMethod args0 below0 = true := by decide +kernel
theorem w_running : about1.status = .running := rfl
set_option maxRecDepth 65536 in
theorem w_room : about1.hasRoom e0.platform room_1 = true :=
  launch0.hasRoom_least _ room_1 (by decide +kernel) (by decide +kernel) (by decide +kernel) (by decide +kernel) (by decide +kernel) (by decide +kernel)
theorem allAtoms_all (ts : List Jvm.Cond) (a : Array Jvm.Value) (st : Jvm.State) : (allAtoms ts).before a st = ts.all (fun c => c.before a st) := by
  induction ts with
  | nil => rfl
  | cons c t ih =>
    show (Jvm.Cond.and c (allAtoms t)).before a st = _
    rw [Jvm.Cond.before_and, ih, List.all_cons]
def words1 : List Jvm.Cond := Jvm.Cond.code x code maxLocals ret :: tables_1
/-- a 'code' word, met by the world's own term for the bytes: nothing is compared byte by byte -/
theorem code_word {y : MethodName} {bytes : ByteArray} {mx : Nat} {rt : Option FieldType} {a : Array Value} {s : State} {m : MethodId} {meth : Method} {c : Code} (h1 : s.methodNamed? y = some m) (h2 : s.vm.method? m = some meth) (h3 : meth.code = some c) (h4 : c.code = bytes)
    (h5 : (c.maxLocals == mx && c.exceptionTable.isEmpty && decide (c.maxStack ≤ mostOperands) && decide (meth.sig.returnType = rt) && !meth.locks && decide (parseMethodDescriptor y.desc = some meth.sig)) = true) : (Jvm.Cond.code y bytes mx rt).before a s = true := by
  simp only [Bool.and_eq_true, beq_iff_eq, Bool.not_eq_true', decide_eq_true_eq] at h5
  obtain ⟨⟨⟨⟨⟨g1, g2⟩, g3⟩, g4⟩, g5⟩, g6⟩ := h5
  simp [Cond.before, Cond.holds, Cond.value, h1, h2, h3, h4, g1, g2, g3, g4, g5, g6]
def isCode : Jvm.Cond → Bool
  | .code _ _ _ _ => true
  | _ => false
theorem all_split {L : List Jvm.Cond} {P : Jvm.Cond → Bool} (h1 : L.all (fun c => isCode c || P c) = true) (h2 : ∀ c ∈ L.filter isCode, P c = true) : L.all P = true := by
  refine List.all_eq_true.mpr fun c hc => ?_
  have h := List.all_eq_true.mp h1 c hc
  rcases Bool.eq_false_or_eq_true (isCode c) with hi | hi
  · exact h2 c (List.mem_filter.mpr ⟨hc, hi⟩)
  · simpa [hi] using h
set_option maxRecDepth 65536 in
theorem w_c0 : (Jvm.Cond.code x code maxLocals ret).before args0 about1 = true := code_word (m := ⟨1, 1⟩) (meth := k1m1) (c := k1c1) (by decide +kernel) rfl rfl rfl (by decide +kernel)
set_option maxRecDepth 65536 in
theorem w_c1 : (Jvm.Cond.code ({ cls := "java/lang/Math", name := "min", desc := "(II)I" } : Jvm.MethodName) jdk_29_method_69_code (2 : Nat) (Option.some Jvm.ClassFile.FieldType.int)).before args0 about1 = true := code_word (m := ⟨2, 2⟩) (meth := k2m2) (c := k2c2) (by decide +kernel) rfl rfl rfl (by decide +kernel)
set_option maxRecDepth 65536 in
theorem w_c2 : (Jvm.Cond.code ({ cls := "java/lang/Math", name := "max", desc := "(II)I" } : Jvm.MethodName) jdk_29_method_65_code (2 : Nat) (Option.some Jvm.ClassFile.FieldType.int)).before args0 about1 = true := code_word (m := ⟨2, 1⟩) (meth := k2m1) (c := k2c1) (by decide +kernel) rfl rfl rfl (by decide +kernel)
set_option maxRecDepth 65536 in
theorem w_c3 : (Jvm.Cond.code ({ cls := "com/example/kosine/kosine/rank/TextStatistics", name := "<init>", desc := "(IIII)V" } : Jvm.MethodName) prog_31_method_1_code (5 : Nat) (Option.none : Option Jvm.ClassFile.FieldType)).before args0 about1 = true := code_word (m := ⟨3, 0⟩) (meth := k3m0) (c := k3c0) (by decide +kernel) rfl rfl rfl (by decide +kernel)
set_option maxRecDepth 65536 in
theorem w_c4 : (Jvm.Cond.code ({ cls := "java/lang/Object", name := "<init>", desc := "()V" } : Jvm.MethodName) object_method_1_code (1 : Nat) (Option.none : Option Jvm.ClassFile.FieldType)).before args0 about1 = true := code_word (m := ⟨0, 0⟩) (meth := k0m0) (c := k0c0) (by decide +kernel) rfl rfl rfl (by decide +kernel)
set_option maxRecDepth 65536 in
theorem w_c5 : (Jvm.Cond.code ({ cls := "com/example/kosine/kosine/rank/TextStatistics", name := "averageFrequency", desc := "()D" } : Jvm.MethodName) prog_31_method_6_code (1 : Nat) (Option.some Jvm.ClassFile.FieldType.double)).before args0 about1 = true := code_word (m := ⟨3, 1⟩) (meth := k3m1) (c := k3c1) (by decide +kernel) rfl rfl rfl (by decide +kernel)
def codes1 : List Jvm.Cond := [Jvm.Cond.code x code maxLocals ret, Jvm.Cond.code ({ cls := "java/lang/Math", name := "min", desc := "(II)I" } : Jvm.MethodName) jdk_29_method_69_code (2 : Nat) (Option.some Jvm.ClassFile.FieldType.int), Jvm.Cond.code ({ cls := "java/lang/Math", name := "max", desc := "(II)I" } : Jvm.MethodName) jdk_29_method_65_code (2 : Nat) (Option.some Jvm.ClassFile.FieldType.int), Jvm.Cond.code ({ cls := "com/example/kosine/kosine/rank/TextStatistics", name := "<init>", desc := "(IIII)V" } : Jvm.MethodName) prog_31_method_1_code (5 : Nat) (Option.none : Option Jvm.ClassFile.FieldType), Jvm.Cond.code ({ cls := "java/lang/Object", name := "<init>", desc := "()V" } : Jvm.MethodName) object_method_1_code (1 : Nat) (Option.none : Option Jvm.ClassFile.FieldType), Jvm.Cond.code ({ cls := "com/example/kosine/kosine/rank/TextStatistics", name := "averageFrequency", desc := "()D" } : Jvm.MethodName) prog_31_method_6_code (1 : Nat) (Option.some Jvm.ClassFile.FieldType.double)]
set_option maxRecDepth 65536 in
theorem codes_eq : words1.filter isCode = codes1 := rfl
theorem w_codes : ∀ c ∈ words1.filter isCode, c.before args0 about1 = true := by
  rw [codes_eq]
  intro c hc
  simp only [codes1, List.mem_cons, List.not_mem_nil, or_false] at hc
  rcases hc with rfl | rfl | rfl | rfl | rfl | rfl
  · exact w_c0
  · exact w_c1
  · exact w_c2
  · exact w_c3
  · exact w_c4
  · exact w_c5
set_option maxRecDepth 65536 in
theorem w_t1 : (words1.take 24).all (fun c => isCode c || c.before args0 about1) = true := by decide +kernel
set_option maxRecDepth 65536 in
theorem w_t2 : (words1.drop 24).all (fun c => isCode c || c.before args0 about1) = true := by decide +kernel
theorem w_tables : (allAtoms (Jvm.Cond.code x code maxLocals ret :: tables_1)).before args0 about1 = true := by
  rw [allAtoms_all]
  show words1.all (fun c => c.before args0 about1) = true
  refine all_split ?_ w_codes
  rw [← List.take_append_drop 24 words1, List.all_append, w_t1, w_t2]
  rfl
set_option maxRecDepth 65536 in
theorem w_case : (Jvm.Cond.and given_1 narrow_1).before args0 about1 = true := by decide +kernel
theorem w_applies : (headSpec (Jvm.Cond.code x code maxLocals ret :: tables_1) room_1).applies x e0.platform about1 = true :=
  (Spec.applies_iff w_frames).mpr ⟨w_running, w_runnable, w_alone, w_named, w_hears, w_ripe, w_room, w_tables⟩
theorem atStart : AtStart classFile x code maxLocals ret World_1 tables_1 room_1 Calls_1 rest_1 Pre_1 launch0 p0 e0 about1 theMethod args0 below0 :=
  ⟨lists_1, trivial, launch0.admits_env _ _ _, launch0.least_env, fairChoices_fair.cas, fairChoices_fair.clock, w_frames, w_args, w_heap, w_applies, trivial, trivial, w_case⟩
end start1
theorem witness_1 : WitnessClaimed_1 := ⟨start1.p0, start1.e0, start1.about1, start1.theMethod, start1.args0, start1.below0, start1.atStart⟩
end Jvm.Pilot.@@N@@
