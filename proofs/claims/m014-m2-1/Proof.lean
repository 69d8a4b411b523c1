import JvmDerived
import JvmDerived.Pilot.@@N@@Statement
import JvmDerived.Pilot.@@N@@Code
set_option linter.unusedVariables false
set_option linter.unusedSimpArgs false
namespace Jvm.Pilot.@@N@@
open Jvm Jvm.ClassFile Sem Op Lib Jvm.Free Jvm.Stand Jvm.LawKit Jvm.RoadKit Bundle Jvm.Pilot.@@N@@.Jvm.D
section OwnKit
variable {p : Program} {l : Launch} {e : Env} {R : Room} {s : State} {m : MethodId} {args : Array Value} {below : List Frame} {meth : Method} {c : Code} {T : State} {locs : List Loc} {cells slots : Nat} {C N : Nat} {F : Outcome → State → List Loc → Prop} {Q : Option Value → Heap → List Loc → Prop} {pc : Nat} {Ls : Array Slot} {S : List Value} {Z : State} {a0 : Array Value} {h : Heap} {own : String}
def Go (p : Program) (e : Env) (below : List Frame) (F : Outcome → State → List Loc → Prop) (Q : Option Value → Heap → List Loc → Prop) (T : State) (g : JFrame) : Prop :=
  ∃ s₂ o, Steps p.tables e below (T.setTop g) s₂ ∧ s₂.status = .running ∧ Ended s₂ below o ∧ ∃ v L, o = .returned v ∧ Q v s₂.heap L ∧ F o s₂ L
def FE (s : State) (C N : Nat) (o : Outcome) (t : State) (L : List Loc) : Prop := FrameEnd s o t L C N
theorem Go.st {T' : State} {g g' : JFrame} (h : Go p e below F Q T' g') (st : ∀ t, Steps p.tables e below (T'.setTop g') t → Steps p.tables e below (T.setTop g) t) : Go p e below F Q T g := by
  obtain ⟨s₂, o, h1, h2⟩ := h
  exact ⟨s₂, o, st _ h1, h2⟩
theorem Go.tr {T' : State} {g g' : JFrame} (h : Go p e below F Q T' g') (st : Steps p.tables e below (T.setTop g) (T'.setTop g')) : Go p e below F Q T g := by
  obtain ⟨s₂, o, h1, h2⟩ := h
  exact ⟨s₂, o, st.trans h1, h2⟩
/-- a body's contract out of its walk -/
theorem metOf {y : MethodName} {bytes : ByteArray} {maxL : Nat} {ret : Option FieldType} {rm : Room} {ws : List Jvm.Cond} {as' : Array Value} {h0 : Heap} (hpl : plainFor y = true)
    (body : ∀ p e s m below meth c s₁, Stand p l e rm s m as' below meth c s₁ [] 0 0 → p.tables.exec = Jvm.exec → c.code = bytes → c.maxLocals = maxL → meth.sig.returnType = ret → meth.locks = false → Z.Warmed39 s.vm → s.vm.findClass y.cls = some m.cls → meth.name = y.name → s₁.heap = h0 → Go p e below (FE s rm.cells rm.slots) Q s₁ (entryFrame m as' maxL)) :
    MetFree l y (head1 (Jvm.Cond.code y bytes maxL ret :: ws) rm) (fun a U => a = as' ∧ Z.Warmed39 U.vm ∧ U.heap = h0) (fun _ _ _ _ _ => True) (fun _ U o U' => ∃ v L, o = .returned v ∧ Q v U'.heap L ∧ FrameEnd U o U' L rm.cells rm.slots) := by
  refine MetFree.of_bodySF hpl hisR ?_
  intro p e s m args below meth c s₁ Bd hml0 hP hK
  obtain ⟨rfl, hZ, hh⟩ := hP
  exact body p e s m below meth c s₁ (Stand.of_body Bd) Bd.exec Bd.bytes hml0 Bd.returns Bd.notSynchronized hZ (findClass_of_methodNamed Bd.named) (name_of_methodNamed Bd.named Bd.method).1 (by rw [← hh, Bd.state]; rfl)
theorem Go.iloadN (X : Stand p l e R s m args below meth c T locs cells slots) (hx : p.tables.exec = Jvm.exec) {k : Fin 4} {v : Int32} (hd : decode c.code pc = .ok (.iload_n k, 1)) (hl : Ls[k.val]? = some (.val (.int v))) (h : Go p e below F Q T (mkF m (pc + 1) Ls (.int v :: S))) : Go p e below F Q T (mkF m pc Ls S) := h.st fun _ k => XS.iloadN X.here hx rfl hd hl k
theorem Go.iload (X : Stand p l e R s m args below meth c T locs cells slots) (hx : p.tables.exec = Jvm.exec) {k : Nat} {v : Int32} (hd : decode c.code pc = .ok (.iload k, 2)) (hl : Ls[k]? = some (.val (.int v))) (h : Go p e below F Q T (mkF m (pc + 2) Ls (.int v :: S))) : Go p e below F Q T (mkF m pc Ls S) := h.st fun _ k => XS.iload X.here hx rfl hd hl k
theorem Go.istoreN (X : Stand p l e R s m args below meth c T locs cells slots) (hx : p.tables.exec = Jvm.exec) {k : Fin 4} {x : Int32} {l' : Array Slot} (hd : decode c.code pc = .ok (.istore_n k, 1)) (hl : storeLocals Ls k.val (.int x) = some l') (h : Go p e below F Q T (mkF m (pc + 1) l' S)) : Go p e below F Q T (mkF m pc Ls (.int x :: S)) := h.st fun _ k => XS.istoreN X.here hx rfl hd rfl hl k
theorem Go.istore (X : Stand p l e R s m args below meth c T locs cells slots) (hx : p.tables.exec = Jvm.exec) {k : Nat} {x : Int32} {l' : Array Slot} (hd : decode c.code pc = .ok (.istore k, 2)) (hl : storeLocals Ls k (.int x) = some l') (h : Go p e below F Q T (mkF m (pc + 2) l' S)) : Go p e below F Q T (mkF m pc Ls (.int x :: S)) := h.st fun _ k => XS.istore X.here hx rfl hd rfl hl k
theorem Go.lloadN (X : Stand p l e R s m args below meth c T locs cells slots) (hx : p.tables.exec = Jvm.exec) {k : Fin 4} {v : Int64} (hd : decode c.code pc = .ok (.lload_n k, 1)) (hl : Ls[k.val]? = some (.val (.long v))) (h : Go p e below F Q T (mkF m (pc + 1) Ls (.long v :: S))) : Go p e below F Q T (mkF m pc Ls S) := h.st fun _ k => XS.lloadN X.here hx rfl hd hl k
theorem Go.lload (X : Stand p l e R s m args below meth c T locs cells slots) (hx : p.tables.exec = Jvm.exec) {k : Nat} {v : Int64} (hd : decode c.code pc = .ok (.lload k, 2)) (hl : Ls[k]? = some (.val (.long v))) (h : Go p e below F Q T (mkF m (pc + 2) Ls (.long v :: S))) : Go p e below F Q T (mkF m pc Ls S) := h.st fun _ k => XS.lload X.here hx rfl hd hl k
theorem Go.lstoreN (X : Stand p l e R s m args below meth c T locs cells slots) (hx : p.tables.exec = Jvm.exec) {k : Fin 4} {x : Int64} {l' : Array Slot} (hd : decode c.code pc = .ok (.lstore_n k, 1)) (hl : storeLocals Ls k.val (.long x) = some l') (h : Go p e below F Q T (mkF m (pc + 1) l' S)) : Go p e below F Q T (mkF m pc Ls (.long x :: S)) := h.st fun _ k => XS.lstoreN X.here hx rfl hd rfl hl k
theorem Go.lstore (X : Stand p l e R s m args below meth c T locs cells slots) (hx : p.tables.exec = Jvm.exec) {k : Nat} {x : Int64} {l' : Array Slot} (hd : decode c.code pc = .ok (.lstore k, 2)) (hl : storeLocals Ls k (.long x) = some l') (h : Go p e below F Q T (mkF m (pc + 2) l' S)) : Go p e below F Q T (mkF m pc Ls (.long x :: S)) := h.st fun _ k => XS.lstore X.here hx rfl hd rfl hl k
theorem Go.aloadN (X : Stand p l e R s m args below meth c T locs cells slots) (hx : p.tables.exec = Jvm.exec) {k : Fin 4} {v : Value} (hd : decode c.code pc = .ok (.aload_n k, 1)) (hl : Ls[k.val]? = some (.val v)) (hv : v.isRef = true) (h : Go p e below F Q T (mkF m (pc + 1) Ls (v :: S))) : Go p e below F Q T (mkF m pc Ls S) := h.st fun _ k => XS.aloadN X.here hx rfl hd hl hv k
theorem Go.aload (X : Stand p l e R s m args below meth c T locs cells slots) (hx : p.tables.exec = Jvm.exec) {k : Nat} {v : Value} (hd : decode c.code pc = .ok (.aload k, 2)) (hl : Ls[k]? = some (.val v)) (hv : v.isRef = true) (h : Go p e below F Q T (mkF m (pc + 2) Ls (v :: S))) : Go p e below F Q T (mkF m pc Ls S) := h.st fun _ k => XS.aload X.here hx rfl hd hl hv k
theorem Go.astoreN (X : Stand p l e R s m args below meth c T locs cells slots) (hx : p.tables.exec = Jvm.exec) {k : Fin 4} {x : Value} {l' : Array Slot} (hd : decode c.code pc = .ok (.astore_n k, 1)) (hv : x.isRef = true) (hl : storeLocals Ls k.val x = some l') (h : Go p e below F Q T (mkF m (pc + 1) l' S)) : Go p e below F Q T (mkF m pc Ls (x :: S)) := h.st fun _ k => XS.astoreN X.here hx rfl hd rfl hv hl k
theorem Go.astore (X : Stand p l e R s m args below meth c T locs cells slots) (hx : p.tables.exec = Jvm.exec) {k : Nat} {x : Value} {l' : Array Slot} (hd : decode c.code pc = .ok (.astore k, 2)) (hv : x.isRef = true) (hl : storeLocals Ls k x = some l') (h : Go p e below F Q T (mkF m (pc + 2) l' S)) : Go p e below F Q T (mkF m pc Ls (x :: S)) := h.st fun _ k => XS.astore X.here hx rfl hd rfl hv hl k
theorem Go.iconst (X : Stand p l e R s m args below meth c T locs cells slots) (hx : p.tables.exec = Jvm.exec) {i : Int} (v : Int32) (hd : decode c.code pc = .ok (.iconst i, 1)) (hv : Int32.ofInt i = v) (h : Go p e below F Q T (mkF m (pc + 1) Ls (.int v :: S))) : Go p e below F Q T (mkF m pc Ls S) := h.st fun _ k => XT.iconstV X.here hx rfl v hd hv k
theorem Go.bipush (X : Stand p l e R s m args below meth c T locs cells slots) (hx : p.tables.exec = Jvm.exec) {i : Int} (v : Int32) (hd : decode c.code pc = .ok (.bipush i, 2)) (hv : (Int8.ofInt i).toInt32 = v) (h : Go p e below F Q T (mkF m (pc + 2) Ls (.int v :: S))) : Go p e below F Q T (mkF m pc Ls S) := h.st fun _ k => XT.bipushV X.here hx rfl v hd hv k
theorem Go.sipush (X : Stand p l e R s m args below meth c T locs cells slots) (hx : p.tables.exec = Jvm.exec) {i : Int} (v : Int32) (hd : decode c.code pc = .ok (.sipush i, 3)) (hv : (Int16.ofInt i).toInt32 = v) (h : Go p e below F Q T (mkF m (pc + 3) Ls (.int v :: S))) : Go p e below F Q T (mkF m pc Ls S) := h.st fun _ k => XT.sipushV X.here hx rfl v hd hv k
theorem Go.lconst (X : Stand p l e R s m args below meth c T locs cells slots) (hx : p.tables.exec = Jvm.exec) {i : Fin 2} (v : Int64) (hd : decode c.code pc = .ok (.lconst i, 1)) (hv : Int64.ofNat i = v) (h : Go p e below F Q T (mkF m (pc + 1) Ls (.long v :: S))) : Go p e below F Q T (mkF m pc Ls S) := h.st fun _ k => XT.lconstV X.here hx rfl v hd hv k
theorem Go.aconstNull (X : Stand p l e R s m args below meth c T locs cells slots) (hx : p.tables.exec = Jvm.exec)  (hd : decode c.code pc = .ok (.aconst_null, 1))  (h : Go p e below F Q T (mkF m (pc + 1) Ls (.null :: S))) : Go p e below F Q T (mkF m pc Ls S) := h.st fun _ k => XS.aconstNull X.here hx rfl hd  k
theorem Go.iadd (X : Stand p l e R s m args below meth c T locs cells slots) (hx : p.tables.exec = Jvm.exec) {x y : Int32} (hd : decode c.code pc = .ok (.iadd, 1))  (h : Go p e below F Q T (mkF m (pc + 1) Ls (.int (x + y) :: S))) : Go p e below F Q T (mkF m pc Ls (.int y :: .int x :: S)) := h.st fun _ k => XS.iadd X.here hx rfl hd rfl k
theorem Go.isub (X : Stand p l e R s m args below meth c T locs cells slots) (hx : p.tables.exec = Jvm.exec) {x y : Int32} (hd : decode c.code pc = .ok (.isub, 1))  (h : Go p e below F Q T (mkF m (pc + 1) Ls (.int (x - y) :: S))) : Go p e below F Q T (mkF m pc Ls (.int y :: .int x :: S)) := h.st fun _ k => XS.isub X.here hx rfl hd rfl k
theorem Go.imul (X : Stand p l e R s m args below meth c T locs cells slots) (hx : p.tables.exec = Jvm.exec) {x y : Int32} (hd : decode c.code pc = .ok (.imul, 1))  (h : Go p e below F Q T (mkF m (pc + 1) Ls (.int (x * y) :: S))) : Go p e below F Q T (mkF m pc Ls (.int y :: .int x :: S)) := h.st fun _ k => XS.imul X.here hx rfl hd rfl k
theorem Go.iand (X : Stand p l e R s m args below meth c T locs cells slots) (hx : p.tables.exec = Jvm.exec) {x y : Int32} (hd : decode c.code pc = .ok (.iand, 1))  (h : Go p e below F Q T (mkF m (pc + 1) Ls (.int (x &&& y) :: S))) : Go p e below F Q T (mkF m pc Ls (.int y :: .int x :: S)) := h.st fun _ k => XS.iand X.here hx rfl hd rfl k
theorem Go.ior (X : Stand p l e R s m args below meth c T locs cells slots) (hx : p.tables.exec = Jvm.exec) {x y : Int32} (hd : decode c.code pc = .ok (.ior, 1))  (h : Go p e below F Q T (mkF m (pc + 1) Ls (.int (x ||| y) :: S))) : Go p e below F Q T (mkF m pc Ls (.int y :: .int x :: S)) := h.st fun _ k => XS.ior X.here hx rfl hd rfl k
theorem Go.ixor (X : Stand p l e R s m args below meth c T locs cells slots) (hx : p.tables.exec = Jvm.exec) {x y : Int32} (hd : decode c.code pc = .ok (.ixor, 1))  (h : Go p e below F Q T (mkF m (pc + 1) Ls (.int (x ^^^ y) :: S))) : Go p e below F Q T (mkF m pc Ls (.int y :: .int x :: S)) := h.st fun _ k => XS.ixor X.here hx rfl hd rfl k
theorem Go.idiv (X : Stand p l e R s m args below meth c T locs cells slots) (hx : p.tables.exec = Jvm.exec) {x y : Int32} (hd : decode c.code pc = .ok (.idiv, 1)) (hy : y ≠ 0) (h : Go p e below F Q T (mkF m (pc + 1) Ls (.int (x / y) :: S))) : Go p e below F Q T (mkF m pc Ls (.int y :: .int x :: S)) := h.st fun _ k => XS.idiv X.here hx rfl hd rfl hy k
theorem Go.ineg (X : Stand p l e R s m args below meth c T locs cells slots) (hx : p.tables.exec = Jvm.exec) {x : Int32} (hd : decode c.code pc = .ok (.ineg, 1))  (h : Go p e below F Q T (mkF m (pc + 1) Ls (.int (-x) :: S))) : Go p e below F Q T (mkF m pc Ls (.int x :: S)) := h.st fun _ k => XS.ineg X.here hx rfl hd rfl k
theorem Go.ladd (X : Stand p l e R s m args below meth c T locs cells slots) (hx : p.tables.exec = Jvm.exec) {x y : Int64} (hd : decode c.code pc = .ok (.ladd, 1))  (h : Go p e below F Q T (mkF m (pc + 1) Ls (.long (x + y) :: S))) : Go p e below F Q T (mkF m pc Ls (.long y :: .long x :: S)) := h.st fun _ k => XS.ladd X.here hx rfl hd rfl k
theorem Go.lsub (X : Stand p l e R s m args below meth c T locs cells slots) (hx : p.tables.exec = Jvm.exec) {x y : Int64} (hd : decode c.code pc = .ok (.lsub, 1))  (h : Go p e below F Q T (mkF m (pc + 1) Ls (.long (x - y) :: S))) : Go p e below F Q T (mkF m pc Ls (.long y :: .long x :: S)) := h.st fun _ k => XS.lsub X.here hx rfl hd rfl k
theorem Go.lmul (X : Stand p l e R s m args below meth c T locs cells slots) (hx : p.tables.exec = Jvm.exec) {x y : Int64} (hd : decode c.code pc = .ok (.lmul, 1))  (h : Go p e below F Q T (mkF m (pc + 1) Ls (.long (x * y) :: S))) : Go p e below F Q T (mkF m pc Ls (.long y :: .long x :: S)) := h.st fun _ k => XS.lmul X.here hx rfl hd rfl k
theorem Go.land (X : Stand p l e R s m args below meth c T locs cells slots) (hx : p.tables.exec = Jvm.exec) {x y : Int64} (hd : decode c.code pc = .ok (.land, 1))  (h : Go p e below F Q T (mkF m (pc + 1) Ls (.long (x &&& y) :: S))) : Go p e below F Q T (mkF m pc Ls (.long y :: .long x :: S)) := h.st fun _ k => XS.land X.here hx rfl hd rfl k
theorem Go.lor (X : Stand p l e R s m args below meth c T locs cells slots) (hx : p.tables.exec = Jvm.exec) {x y : Int64} (hd : decode c.code pc = .ok (.lor, 1))  (h : Go p e below F Q T (mkF m (pc + 1) Ls (.long (x ||| y) :: S))) : Go p e below F Q T (mkF m pc Ls (.long y :: .long x :: S)) := h.st fun _ k => XS.lor X.here hx rfl hd rfl k
theorem Go.lxor (X : Stand p l e R s m args below meth c T locs cells slots) (hx : p.tables.exec = Jvm.exec) {x y : Int64} (hd : decode c.code pc = .ok (.lxor, 1))  (h : Go p e below F Q T (mkF m (pc + 1) Ls (.long (x ^^^ y) :: S))) : Go p e below F Q T (mkF m pc Ls (.long y :: .long x :: S)) := h.st fun _ k => XS.lxor X.here hx rfl hd rfl k
theorem Go.ldiv (X : Stand p l e R s m args below meth c T locs cells slots) (hx : p.tables.exec = Jvm.exec) {x y : Int64} (hd : decode c.code pc = .ok (.ldiv, 1)) (hy : y ≠ 0) (h : Go p e below F Q T (mkF m (pc + 1) Ls (.long (x / y) :: S))) : Go p e below F Q T (mkF m pc Ls (.long y :: .long x :: S)) := h.st fun _ k => XS.ldiv X.here hx rfl hd rfl hy k
theorem Go.lneg (X : Stand p l e R s m args below meth c T locs cells slots) (hx : p.tables.exec = Jvm.exec) {x : Int64} (hd : decode c.code pc = .ok (.lneg, 1))  (h : Go p e below F Q T (mkF m (pc + 1) Ls (.long (-x) :: S))) : Go p e below F Q T (mkF m pc Ls (.long x :: S)) := h.st fun _ k => XS.lneg X.here hx rfl hd rfl k
theorem Go.irem (X : Stand p l e R s m args below meth c T locs cells slots) (hx : p.tables.exec = Jvm.exec) {x y : Int32} (hd : decode c.code pc = .ok (.irem, 1)) (hy : y ≠ 0) (h : Go p e below F Q T (mkF m (pc + 1) Ls (.int (x % y) :: S))) : Go p e below F Q T (mkF m pc Ls (.int y :: .int x :: S)) := h.st fun _ k => Jvm.RoadKit.iremM X hx rfl hd rfl hy k
theorem Go.lrem (X : Stand p l e R s m args below meth c T locs cells slots) (hx : p.tables.exec = Jvm.exec) {x y : Int64} (hd : decode c.code pc = .ok (.lrem, 1)) (hy : y ≠ 0) (h : Go p e below F Q T (mkF m (pc + 1) Ls (.long (x % y) :: S))) : Go p e below F Q T (mkF m pc Ls (.long y :: .long x :: S)) := h.st fun _ k => XS.lrem X.here hx rfl hd rfl hy (by rw [lrem_mod]; exact k)
theorem Go.ishl (X : Stand p l e R s m args below meth c T locs cells slots) (hx : p.tables.exec = Jvm.exec) {x : Int32} {y : Int32} (hd : decode c.code pc = .ok (.ishl, 1))  (h : Go p e below F Q T (mkF m (pc + 1) Ls (.int (x <<< (y &&& 31)) :: S))) : Go p e below F Q T (mkF m pc Ls (.int y :: .int x :: S)) := h.st fun _ k => XS.ishl X.here hx rfl hd rfl k
theorem Go.ishr (X : Stand p l e R s m args below meth c T locs cells slots) (hx : p.tables.exec = Jvm.exec) {x : Int32} {y : Int32} (hd : decode c.code pc = .ok (.ishr, 1))  (h : Go p e below F Q T (mkF m (pc + 1) Ls (.int (x >>> (y &&& 31)) :: S))) : Go p e below F Q T (mkF m pc Ls (.int y :: .int x :: S)) := h.st fun _ k => XS.ishr X.here hx rfl hd rfl k
theorem Go.iushr (X : Stand p l e R s m args below meth c T locs cells slots) (hx : p.tables.exec = Jvm.exec) {x : Int32} {y : Int32} (hd : decode c.code pc = .ok (.iushr, 1))  (h : Go p e below F Q T (mkF m (pc + 1) Ls (.int ((x.toUInt32 >>> (y &&& 31).toUInt32).toInt32) :: S))) : Go p e below F Q T (mkF m pc Ls (.int y :: .int x :: S)) := h.st fun _ k => XS.iushr X.here hx rfl hd rfl k
theorem Go.lshl (X : Stand p l e R s m args below meth c T locs cells slots) (hx : p.tables.exec = Jvm.exec) {x : Int64} {y : Int32} (hd : decode c.code pc = .ok (.lshl, 1))  (h : Go p e below F Q T (mkF m (pc + 1) Ls (.long (x <<< (y &&& 0x3f).toInt64) :: S))) : Go p e below F Q T (mkF m pc Ls (.int y :: .long x :: S)) := h.st fun _ k => XS.lshl X.here hx rfl hd rfl k
theorem Go.lshr (X : Stand p l e R s m args below meth c T locs cells slots) (hx : p.tables.exec = Jvm.exec) {x : Int64} {y : Int32} (hd : decode c.code pc = .ok (.lshr, 1))  (h : Go p e below F Q T (mkF m (pc + 1) Ls (.long (x >>> (y &&& 0x3f).toInt64) :: S))) : Go p e below F Q T (mkF m pc Ls (.int y :: .long x :: S)) := h.st fun _ k => XS.lshr X.here hx rfl hd rfl k
theorem Go.lushr (X : Stand p l e R s m args below meth c T locs cells slots) (hx : p.tables.exec = Jvm.exec) {x : Int64} {y : Int32} (hd : decode c.code pc = .ok (.lushr, 1))  (h : Go p e below F Q T (mkF m (pc + 1) Ls (.long ((x.toUInt64 >>> (y &&& 0x3f).toInt64.toUInt64).toInt64) :: S))) : Go p e below F Q T (mkF m pc Ls (.int y :: .long x :: S)) := h.st fun _ k => XS.lushr X.here hx rfl hd rfl k
theorem Go.i2l (X : Stand p l e R s m args below meth c T locs cells slots) (hx : p.tables.exec = Jvm.exec) {x : Int32} (hd : decode c.code pc = .ok (.i2l, 1))  (h : Go p e below F Q T (mkF m (pc + 1) Ls (.long (x.toInt64) :: S))) : Go p e below F Q T (mkF m pc Ls (.int x :: S)) := h.st fun _ k => XS.i2l X.here hx rfl hd rfl k
theorem Go.l2i (X : Stand p l e R s m args below meth c T locs cells slots) (hx : p.tables.exec = Jvm.exec) {x : Int64} (hd : decode c.code pc = .ok (.l2i, 1))  (h : Go p e below F Q T (mkF m (pc + 1) Ls (.int (x.toInt32) :: S))) : Go p e below F Q T (mkF m pc Ls (.long x :: S)) := h.st fun _ k => XS.l2i X.here hx rfl hd rfl k
theorem Go.i2b (X : Stand p l e R s m args below meth c T locs cells slots) (hx : p.tables.exec = Jvm.exec) {x : Int32} (hd : decode c.code pc = .ok (.i2b, 1))  (h : Go p e below F Q T (mkF m (pc + 1) Ls (.int (x.toInt8.toInt32) :: S))) : Go p e below F Q T (mkF m pc Ls (.int x :: S)) := h.st fun _ k => XS.i2b X.here hx rfl hd rfl k
theorem Go.i2s (X : Stand p l e R s m args below meth c T locs cells slots) (hx : p.tables.exec = Jvm.exec) {x : Int32} (hd : decode c.code pc = .ok (.i2s, 1))  (h : Go p e below F Q T (mkF m (pc + 1) Ls (.int (x.toInt16.toInt32) :: S))) : Go p e below F Q T (mkF m pc Ls (.int x :: S)) := h.st fun _ k => XS.i2s X.here hx rfl hd rfl k
theorem Go.i2c (X : Stand p l e R s m args below meth c T locs cells slots) (hx : p.tables.exec = Jvm.exec) {x : Int32} (hd : decode c.code pc = .ok (.i2c, 1))  (h : Go p e below F Q T (mkF m (pc + 1) Ls (.int (x.toUInt32.toUInt16.toUInt32.toInt32) :: S))) : Go p e below F Q T (mkF m pc Ls (.int x :: S)) := h.st fun _ k => XS.i2c X.here hx rfl hd rfl k
theorem Go.lcmp (X : Stand p l e R s m args below meth c T locs cells slots) (hx : p.tables.exec = Jvm.exec) {x y : Int64} (hd : decode c.code pc = .ok (.lcmp, 1))  (h : Go p e below F Q T (mkF m (pc + 1) Ls (.int (XT.cmpL x y) :: S))) : Go p e below F Q T (mkF m pc Ls (.long y :: .long x :: S)) := h.st fun _ k => XT.lcmp X.here hx rfl hd rfl k
theorem Go.dup (X : Stand p l e R s m args below meth c T locs cells slots) (hx : p.tables.exec = Jvm.exec) {x : Value} (hd : decode c.code pc = .ok (.dup, 1)) (hc : x.category = 1) (h : Go p e below F Q T (mkF m (pc + 1) Ls (x :: x :: S))) : Go p e below F Q T (mkF m pc Ls (x :: S)) := h.st fun _ k => XS.dup X.here hx rfl hd rfl hc k
theorem Go.pop (X : Stand p l e R s m args below meth c T locs cells slots) (hx : p.tables.exec = Jvm.exec) {x : Value} (hd : decode c.code pc = .ok (.pop, 1)) (hc : x.category = 1) (h : Go p e below F Q T (mkF m (pc + 1) Ls S)) : Go p e below F Q T (mkF m pc Ls (x :: S)) := h.st fun _ k => XS.pop X.here hx rfl hd rfl hc k
theorem Go.dupX1 (X : Stand p l e R s m args below meth c T locs cells slots) (hx : p.tables.exec = Jvm.exec) {x y : Value} (hd : decode c.code pc = .ok (.dup_x1, 1)) (hc : x.category = 1) (hc' : y.category = 1) (h : Go p e below F Q T (mkF m (pc + 1) Ls (x :: y :: x :: S))) : Go p e below F Q T (mkF m pc Ls (x :: y :: S)) := h.st fun _ k => XS.dupX1 X.here hx rfl hd rfl hc hc' k
theorem Go.iinc (X : Stand p l e R s m args below meth c T locs cells slots) (hx : p.tables.exec = Jvm.exec) {k : Nat} {cst : Int} {x : Int32} {l' : Array Slot} (v : Int32) (hd : decode c.code pc = .ok (.iinc k cst, 3)) (hv : Int32.ofInt cst = v) (hl : Ls[k]? = some (.val (.int x))) (hl' : storeLocals Ls k (.int (x + v)) = some l') (h : Go p e below F Q T (mkF m (pc + 3) l' S)) : Go p e below F Q T (mkF m pc Ls S) := h.st fun _ k => XT.iincV X.here hx rfl v hd hv hl hl' k
theorem Go.iincF (X : Stand p l e R s m args below meth c T locs cells slots) (hx : p.tables.exec = Jvm.exec) {k : Nat} {cst : Int} {x : Int32} {l' : Array Slot} (v z : Int32) (hd : decode c.code pc = .ok (.iinc k cst, 3)) (hv : Int32.ofInt cst = v) (hz : x + v = z) (hl : Ls[k]? = some (.val (.int x))) (hl' : storeLocals Ls k (.int z) = some l') (h : Go p e below F Q T (mkF m (pc + 3) l' S)) : Go p e below F Q T (mkF m pc Ls S) := Go.iinc X hx v hd hv hl (hz ▸ hl') h
theorem Go.istoreS (X : Stand p l e R s m args below meth c T locs cells slots) (hx : p.tables.exec = Jvm.exec) {k : Nat} {x : Int32} {o : Slot} (hd : decode c.code pc = .ok (.istore k, 2)) (hold : Ls[k]? = some o) (ho : One o) (h : Go p e below F Q T (mkF m (pc + 2) (Ls.setIfInBounds k (.val (.int x))) S)) : Go p e below F Q T (mkF m pc Ls (.int x :: S)) := h.st fun _ q => XS.istoreS X.here hx rfl hd rfl hold ho q
theorem Go.istoreNS (X : Stand p l e R s m args below meth c T locs cells slots) (hx : p.tables.exec = Jvm.exec) {k : Fin 4} {x : Int32} {o : Slot} (hd : decode c.code pc = .ok (.istore_n k, 1)) (hold : Ls[k.val]? = some o) (ho : One o) (h : Go p e below F Q T (mkF m (pc + 1) (Ls.setIfInBounds k.val (.val (.int x))) S)) : Go p e below F Q T (mkF m pc Ls (.int x :: S)) := h.st fun _ q => XS.istoreNS X.here hx rfl hd rfl hold ho q
theorem Go.goto (X : Stand p l e R s m args below meth c T locs cells slots) (hx : p.tables.exec = Jvm.exec) {o : Int} {pc' : Nat} (hd : decode c.code pc = .ok (.goto o, 3)) (ho : 0 ≤ (pc : Int) + o) (hp : ((pc : Int) + o).toNat = pc') (h : Go p e below F Q T (mkF m pc' Ls S)) : Go p e below F Q T (mkF m pc Ls S) := h.st fun _ k => XS.goto X.here hx rfl rfl hd ho hp k
theorem Go.ifYes (X : Stand p l e R s m args below meth c T locs cells slots) (hx : p.tables.exec = Jvm.exec) {cd : ClassFile.Cond} {x : Int32} {o : Int} {pc' : Nat} (hd : decode c.code pc = .ok (.ifCond cd o, 3)) (hc : ifCond.holds cd x = true) (ho : 0 ≤ (pc : Int) + o) (hp : ((pc : Int) + o).toNat = pc') (h : Go p e below F Q T (mkF m pc' Ls S)) : Go p e below F Q T (mkF m pc Ls (.int x :: S)) := h.st fun _ k => XS.ifYes X.here hx rfl rfl hd rfl hc ho hp k
theorem Go.ifNo (X : Stand p l e R s m args below meth c T locs cells slots) (hx : p.tables.exec = Jvm.exec) {cd : ClassFile.Cond} {x : Int32} {o : Int} (hd : decode c.code pc = .ok (.ifCond cd o, 3)) (hc : ifCond.holds cd x = false) (h : Go p e below F Q T (mkF m (pc + 3) Ls S)) : Go p e below F Q T (mkF m pc Ls (.int x :: S)) := h.st fun _ k => XS.ifNo X.here hx rfl hd rfl hc k
theorem Go.icmpYes (X : Stand p l e R s m args below meth c T locs cells slots) (hx : p.tables.exec = Jvm.exec) {cd : ClassFile.Cond} {x y : Int32} {o : Int} {pc' : Nat} (hd : decode c.code pc = .ok (.if_icmp cd o, 3)) (hc : if_icmp.holds cd x y = true) (ho : 0 ≤ (pc : Int) + o) (hp : ((pc : Int) + o).toNat = pc') (h : Go p e below F Q T (mkF m pc' Ls S)) : Go p e below F Q T (mkF m pc Ls (.int y :: .int x :: S)) := h.st fun _ k => XS.icmpYes X.here hx rfl rfl hd rfl hc ho hp k
theorem Go.icmpNo (X : Stand p l e R s m args below meth c T locs cells slots) (hx : p.tables.exec = Jvm.exec) {cd : ClassFile.Cond} {x y : Int32} {o : Int} (hd : decode c.code pc = .ok (.if_icmp cd o, 3)) (hc : if_icmp.holds cd x y = false) (h : Go p e below F Q T (mkF m (pc + 3) Ls S)) : Go p e below F Q T (mkF m pc Ls (.int y :: .int x :: S)) := h.st fun _ k => XS.icmpNo X.here hx rfl hd rfl hc k
theorem Go.ifnullYes (X : Stand p l e R s m args below meth c T locs cells slots) (hx : p.tables.exec = Jvm.exec) {o : Int} {pc' : Nat} (hd : decode c.code pc = .ok (.ifnull o, 3)) (ho : 0 ≤ (pc : Int) + o) (hp : ((pc : Int) + o).toNat = pc') (h : Go p e below F Q T (mkF m pc' Ls S)) : Go p e below F Q T (mkF m pc Ls (.null :: S)) := h.st fun _ k => XS.ifnullYes X.here hx rfl rfl hd rfl ho hp k
theorem Go.ifnullNo (X : Stand p l e R s m args below meth c T locs cells slots) (hx : p.tables.exec = Jvm.exec) {o : Int} {b : Addr} (hd : decode c.code pc = .ok (.ifnull o, 3)) (h : Go p e below F Q T (mkF m (pc + 3) Ls S)) : Go p e below F Q T (mkF m pc Ls (.ref b :: S)) := h.st fun _ k => XS.ifnullNo X.here hx rfl hd rfl k
theorem Go.ifnonnullYes (X : Stand p l e R s m args below meth c T locs cells slots) (hx : p.tables.exec = Jvm.exec) {o : Int} {b : Addr} {pc' : Nat} (hd : decode c.code pc = .ok (.ifnonnull o, 3)) (ho : 0 ≤ (pc : Int) + o) (hp : ((pc : Int) + o).toNat = pc') (h : Go p e below F Q T (mkF m pc' Ls S)) : Go p e below F Q T (mkF m pc Ls (.ref b :: S)) := h.st fun _ k => XS.ifnonnullYes X.here hx rfl rfl hd rfl ho hp k
theorem Go.ifnonnullNo (X : Stand p l e R s m args below meth c T locs cells slots) (hx : p.tables.exec = Jvm.exec) {o : Int} (hd : decode c.code pc = .ok (.ifnonnull o, 3)) (h : Go p e below F Q T (mkF m (pc + 3) Ls S)) : Go p e below F Q T (mkF m pc Ls (.null :: S)) := h.st fun _ k => XS.ifnonnullNo X.here hx rfl hd rfl k
theorem Go.acmpYes (X : Stand p l e R s m args below meth c T locs cells slots) (hx : p.tables.exec = Jvm.exec) {cd : ClassFile.ACond} {x y : Value} {o : Int} {pc' : Nat} (hd : decode c.code pc = .ok (.if_acmp cd o, 3)) (hx' : x.isRef = true) (hy' : y.isRef = true) (hc : XT.acmp cd x y = true) (ho : 0 ≤ (pc : Int) + o) (hp : ((pc : Int) + o).toNat = pc') (h : Go p e below F Q T (mkF m pc' Ls S)) : Go p e below F Q T (mkF m pc Ls (y :: x :: S)) := h.st fun _ k => XT.acmpYes X.here hx rfl rfl hd rfl hx' hy' hc ho hp k
theorem Go.acmpNo (X : Stand p l e R s m args below meth c T locs cells slots) (hx : p.tables.exec = Jvm.exec) {cd : ClassFile.ACond} {x y : Value} {o : Int} (hd : decode c.code pc = .ok (.if_acmp cd o, 3)) (hx' : x.isRef = true) (hy' : y.isRef = true) (hc : XT.acmp cd x y = false) (h : Go p e below F Q T (mkF m (pc + 3) Ls S)) : Go p e below F Q T (mkF m pc Ls (y :: x :: S)) := h.st fun _ k => XT.acmpNo X.here hx rfl hd rfl hx' hy' hc k
theorem Go.ldcI (X : Stand p l e R s m args below meth c T locs cells slots) (hx : p.tables.exec = Jvm.exec) (hZ : Z.Warmed39 s.vm) {index : Nat} {v : Int32} (hown : s.vm.findClass own = some m.cls) (w : (Jvm.Cond.constant own index v).before a0 Z = true) (hd : decode c.code pc = .ok (.ldc index, 2)) (h : Go p e below F Q T (mkF m (pc + 2) Ls (.int v :: S))) : Go p e below F Q T (mkF m pc Ls S) := h.st fun _ k => Jvm.Stand.ldcI X hx hown (mvT hZ w) rfl hd k
theorem Go.ldcWI (X : Stand p l e R s m args below meth c T locs cells slots) (hx : p.tables.exec = Jvm.exec) (hZ : Z.Warmed39 s.vm) {index : Nat} {v : Int32} (hown : s.vm.findClass own = some m.cls) (w : (Jvm.Cond.constant own index v).before a0 Z = true) (hd : decode c.code pc = .ok (.ldc_w index, 3)) (h : Go p e below F Q T (mkF m (pc + 3) Ls (.int v :: S))) : Go p e below F Q T (mkF m pc Ls S) := h.st fun _ k => Jvm.Stand.ldcWI X hx hown (mvT hZ w) rfl hd k
theorem Go.ldc2J (X : Stand p l e R s m args below meth c T locs cells slots) (hx : p.tables.exec = Jvm.exec) (hZ : Z.Warmed39 s.vm) {index : Nat} {v : Int64} (hown : s.vm.findClass own = some m.cls) (w : (Jvm.Cond.constantLong own index v).before a0 Z = true) (hd : decode c.code pc = .ok (.ldc2_w index, 3)) (h : Go p e below F Q T (mkF m (pc + 3) Ls (.long v :: S))) : Go p e below F Q T (mkF m pc Ls S) := h.st fun _ k => Jvm.Stand.ldc2J X hx hown (mvT hZ w) rfl hd k
theorem Go.retN (X : Stand p l e R s m args below meth c T locs cells slots) (hx : p.tables.exec = Jvm.exec) {t : FieldType} {z : Int32} (hret : meth.sig.returnType = some t) (hlk : meth.locks = false) (ht : t = .boolean ∨ t = .byte ∨ t = .char ∨ t = .short) (hd : decode c.code pc = .ok (.ireturn, 1)) (hC : cells ≤ C) (hN : slots ≤ N) (hQ : Q (some (.int (nar t z))) T.heap locs) : Go p e below (FE s C N) Q T (mkF m pc Ls (.int z :: S)) := by
  obtain ⟨fs, hr, hrun, hended, hW, hsame⟩ := X.leave (v := some (.int (nar t z))) (fun h => by rw [hret] at h; cases h) hlk
  exact ⟨_, _, Jvm.RoadKit.retN X hx hret ht hd hr, hrun, hended, _, _, rfl, hQ, ⟨_, rfl⟩, hW, hsame.mono hC hN⟩
theorem Go.retI (X : Stand p l e R s m args below meth c T locs cells slots) (hx : p.tables.exec = Jvm.exec) {z : Int32} (hret : meth.sig.returnType = some .int) (hlk : meth.locks = false) (hd : decode c.code pc = .ok (.ireturn, 1)) (hC : cells ≤ C) (hN : slots ≤ N) (hQ : Q (some (.int z)) T.heap locs) : Go p e below (FE s C N) Q T (mkF m pc Ls (.int z :: S)) := by
  obtain ⟨fs, hr, hrun, hended, hW, hsame⟩ := X.leave (v := some (.int z)) (fun h => by rw [hret] at h; cases h) hlk
  exact ⟨_, _, retOut X hx hret rfl (Or.inl ⟨rfl, Or.inl rfl, _, rfl⟩) hd hr, hrun, hended, _, _, rfl, hQ, ⟨_, rfl⟩, hW, hsame.mono hC hN⟩
theorem Go.retJ (X : Stand p l e R s m args below meth c T locs cells slots) (hx : p.tables.exec = Jvm.exec) {z : Int64} (hret : meth.sig.returnType = some .long) (hlk : meth.locks = false) (hd : decode c.code pc = .ok (.lreturn, 1)) (hC : cells ≤ C) (hN : slots ≤ N) (hQ : Q (some (.long z)) T.heap locs) : Go p e below (FE s C N) Q T (mkF m pc Ls (.long z :: S)) := by
  obtain ⟨fs, hr, hrun, hended, hW, hsame⟩ := X.leave (v := some (.long z)) (fun h => by rw [hret] at h; cases h) hlk
  exact ⟨_, _, retOut X hx hret rfl (Or.inr (Or.inl ⟨rfl, rfl, _, rfl⟩)) hd hr, hrun, hended, _, _, rfl, hQ, ⟨_, rfl⟩, hW, hsame.mono hC hN⟩
theorem Go.retA (X : Stand p l e R s m args below meth c T locs cells slots) (hx : p.tables.exec = Jvm.exec) {w : Value} {t : FieldType} (hret : meth.sig.returnType = some t) (hlk : meth.locks = false) (ht : t.isReference = true) (hw : w.isRef = true) (hn : narrow t w = w) (hd : decode c.code pc = .ok (.areturn, 1)) (hC : cells ≤ C) (hN : slots ≤ N) (hQ : Q (some w) T.heap locs) : Go p e below (FE s C N) Q T (mkF m pc Ls (w :: S)) := by
  obtain ⟨fs, hr, hrun, hended, hW, hsame⟩ := X.leave (v := some w) (fun h => by rw [hret] at h; cases h) hlk
  exact ⟨_, _, retOut X hx hret hn (Or.inr (Or.inr (Or.inr (Or.inr ⟨rfl, ht, hw⟩)))) hd hr, hrun, hended, _, _, rfl, hQ, ⟨_, rfl⟩, hW, hsame.mono hC hN⟩
theorem Go.retV (X : Stand p l e R s m args below meth c T locs cells slots) (hx : p.tables.exec = Jvm.exec) (hret : meth.sig.returnType = none) (hlk : meth.locks = false) (hd : decode c.code pc = .ok (.return_, 1)) (hC : cells ≤ C) (hN : slots ≤ N) (hQ : Q none T.heap locs) : Go p e below (FE s C N) Q T (mkF m pc Ls []) := by
  obtain ⟨fs, hr, hrun, hended, hW, hsame⟩ := X.leave (v := none) (fun _ => rfl) hlk
  exact ⟨_, _, X.returnOut hx hret hd hr, hrun, hended, _, _, rfl, hQ, ⟨_, rfl⟩, hW, hsame.mono hC hN⟩
theorem Go.getF (X : Stand p l e R s m args below meth c T locs cells slots) (hx : p.tables.exec = Jvm.exec) (hZ : Z.Warmed39 s.vm) {R0 O n d host : String} {index : Nat} (hown : s.vm.findClass own = some m.cls) (w : (Jvm.Cond.fieldLink own index R0 n d).before a0 Z = true ∨ (Jvm.Cond.fieldLinkNest own index R0 n d host).before a0 Z = true) (via : Via Z R0 O n d) (eT : T.heap = h) {a : Addr} {v : Value} (Fl : Fld Z h a O n d v) (hd : decode c.code pc = .ok (.getfield index, 3)) (k : ∀ T', Stand p l e R s m args below meth c T' locs cells slots → T'.heap = h → Go p e below F Q T' (mkF m (pc + 3) Ls (v :: S))) : Go p e below F Q T (mkF m pc Ls (.ref a :: S)) := by
  obtain ⟨T', X', e', st⟩ := Jvm.RoadKit.getF X hx hZ hown w via eT Fl (g := mkF m pc Ls (.ref a :: S)) rfl rfl hd
  exact (k T' X' e').st st
theorem Go.getS (X : Stand p l e R s m args below meth c T locs cells slots) (hx : p.tables.exec = Jvm.exec) (hZ : Z.Warmed39 s.vm) {R0 O n d host : String} {index : Nat} (hown : s.vm.findClass own = some m.cls) (w : (Jvm.Cond.fieldLink own index R0 n d).before a0 Z = true ∨ (Jvm.Cond.fieldLinkNest own index R0 n d host).before a0 Z = true) (via : Via Z R0 O n d) (eT : T.heap = h) {v : Value} (Fl : Sta Z h O n d v) (hd : decode c.code pc = .ok (.getstatic index, 3)) (k : ∀ T', Stand p l e R s m args below meth c T' locs cells slots → T'.heap = h → Go p e below F Q T' (mkF m (pc + 3) Ls (v :: S))) : Go p e below F Q T (mkF m pc Ls S) := by
  obtain ⟨T', X', e', st⟩ := getS2 X hx hZ hown w via eT Fl (g := mkF m pc Ls S) rfl hd
  exact (k T' X' e').st st
theorem Go.putF (X : Stand p l e R s m args below meth c T locs cells slots) (hx : p.tables.exec = Jvm.exec) (hZ : Z.Warmed39 s.vm) {R0 O n d host K : String} {index kk : Nat} {ty : FieldType} (hown : s.vm.findClass own = some m.cls) (w : (Jvm.Cond.fieldLink own index R0 n d).before a0 Z = true ∨ (Jvm.Cond.fieldLinkNest own index R0 n d host).before a0 Z = true) (via : Via Z R0 O n d) (eT : T.heap = h) {a : Addr} {v old : Value} (Fl : Fld Z h a O n d old) (E : Exa Z h a K) (L : (Jvm.Cond.lays K O n d).before a0 Z = true ∨ ((Jvm.Cond.laysFinal K O n d).before a0 Z = true ∧ own = O ∧ meth.name = "<init>")) (wi : (Jvm.Cond.instantiable K kk).before a0 Z = true) (hty : parseFieldDescriptor d = some ty) (hn : narrow ty v = v) (hf : fits ty v = true) (hd : decode c.code pc = .ok (.putfield index, 3)) (k : ∀ T' h', Stand p l e R s m args below meth c T' (locs ++ [⟨a, Jvm.RoadKit.slotOf Z O n d⟩]) cells slots → T'.heap = h' → Wr h h' a (Jvm.RoadKit.slotOf Z O n d) v → Go p e below F Q T' (mkF m (pc + 3) Ls S)) : Go p e below F Q T (mkF m pc Ls (v :: .ref a :: S)) := by
  obtain ⟨T', h', X', e', W', st⟩ := Jvm.RoadKit.putF X hx hZ hown w via eT Fl E L wi hty hn hf (g := mkF m pc Ls (v :: .ref a :: S)) rfl rfl hd
  exact (k T' h' X' e' W').st st
theorem Go.newO (X : Stand p l e R s m args below meth c T locs cells slots) (hx : p.tables.exec = Jvm.exec) (hZ : Z.Warmed39 s.vm) {K : String} {index n : Nat} (hown : s.vm.findClass own = some m.cls) (w : (Jvm.Cond.classLink own index K).before a0 Z = true) (wi : (Jvm.Cond.instantiable K n).before a0 Z = true) (wz : (Jvm.Cond.initialized K).before a0 Z = true) (eT : T.heap = h) (hd : decode c.code pc = .ok (.new index, 3)) (hc : cells + 1 ≤ R.cells) (hl : slots + n ≤ R.slots) (k : ∀ T' h' a, a = h.size → Stand p l e R s m args below meth c T' locs (cells + 1) (slots + n) → T'.heap = h' → Ext h h' → Exa Z h' a K → (∀ {O nm d : String} {ty : FieldType}, Laid Z a0 K O nm d → parseFieldDescriptor d = some ty → Fld Z h' a O nm d (defaultValue ty)) → Go p e below F Q T' (mkF m (pc + 3) Ls (.ref a :: S))) : Go p e below F Q T (mkF m pc Ls S) := by
  obtain ⟨T', h', X', e', E', A', D', -, st⟩ := Jvm.RoadKit.newO X hx hZ hown w wi wz eT (g := mkF m pc Ls S) rfl hd hc hl
  exact (k T' h' _ rfl X' e' E' A' D').st st
theorem Go.initO (X : Stand p l e R s m args below meth c T locs cells slots) (hx : p.tables.exec = Jvm.exec) (hZ : Z.Warmed39 s.vm) {idx : Nat} (hown : s.vm.findClass own = some m.cls) (w1 : (Jvm.Cond.methodLink own idx Lib.objectInit).before a0 Z = true) (w2 : (Jvm.Cond.instanceMethod Lib.objectInit).before a0 Z = true) (w3 : (Jvm.Cond.code Lib.objectInit ⟨#[0xb1]⟩ 1 none).before a0 Z = true) (eT : T.heap = h) (hsize : Ls.size = c.maxLocals) {a : Addr} (hd : decode c.code pc = .ok (.invokespecial idx, 3)) (hf : 1 ≤ R.frames) {W : Nat} (hW : (S.map fun v => v.category).sum ≤ W) (hl : W + 12 ≤ R.locals) (k : ∀ T', Stand p l e R s m args below meth c T' locs cells slots → T'.heap = h → Go p e below F Q T' (mkF m (pc + 3) Ls S)) : Go p e below F Q T (mkF m pc Ls (.ref a :: S)) := by
  obtain ⟨T', X', e', st⟩ := Jvm.RoadKit.initO X hx hZ hown w1 w2 w3 eT (g := mkF m pc Ls (.ref a :: S)) rfl hsize rfl hd hf (W := W) (by show 2 * 0 + _ ≤ _; omega) hl
  exact (k T' X' e').st st
theorem Go.callS (X : Stand p l e R s m args below meth c T locs cells slots) (hx : p.tables.exec = Jvm.exec) (hZ : Z.Warmed39 s.vm) {index : Nat} {y : MethodName} {bytes : ByteArray} {maxL : Nat} {ret : Option FieldType} {rm : Room} {as' : Array Value} {Qy : Option Value → Heap → List Loc → Prop} (hM : MetFree l y (head1 [Jvm.Cond.code y bytes maxL ret] rm) (fun a U => a = as' ∧ Z.Warmed39 U.vm ∧ U.heap = h) (fun _ _ _ _ _ => True) (fun _ U o U' => ∃ v L, o = .returned v ∧ Qy v U'.heap L ∧ FrameEnd U o U' L rm.cells rm.slots)) (hown : s.vm.findClass own = some m.cls) (wl : (Jvm.Cond.methodLink own index y).before a0 Z = true) (ws : (Jvm.Cond.static y).before a0 Z = true) (wi : (Jvm.Cond.initialized y.cls).before a0 Z = true) (wc : (Jvm.Cond.code y bytes maxL ret).before a0 Z = true) (hy : y.cls ≠ "java/lang/invoke/MethodHandle" ∧ y.cls ≠ "java/lang/invoke/VarHandle") (eT : T.heap = h) {W : Nat} (hsize : Ls.size = c.maxLocals) {argsL : List Value} (hW : (S.map fun v => v.category).sum ≤ W) (hf : rm.frames + 1 ≤ R.frames) (hl : W + (maxL + 11) + rm.locals ≤ R.locals) (hc : cells + rm.cells ≤ R.cells) (hs : slots + rm.slots ≤ R.slots) {ps : List FieldType} {r : Option FieldType} (hds : parseMethodDescriptor y.desc = some ⟨ps, r⟩) (hlen : argsL.length = ps.length) (has : argsL.toArray = as') (hd : decode c.code pc = .ok (.invokestatic index, 3)) (k : ∀ v T' L, Stand p l e R s m args below meth c T' (locs ++ L) (cells + rm.cells) (slots + rm.slots) → Qy v T'.heap L → Go p e below F Q T' (mkF m (pc + 3) Ls (v.toList ++ S))) : Go p e below F Q T (mkF m pc Ls (argsL.reverse ++ S)) := by
  obtain ⟨_, _, ⟨T', L', k', n'⟩, -, X', ⟨L, hq, e1, e2, e3⟩, st⟩ := Jvm.LawKit.callS X hx hown (mvT hZ wl) (mvT hZ ws) (mvT hZ wi) (mvT hZ wc) hy (backOf (W := W) hM hZ wc wi hf hl) (g := mkF m pc Ls (argsL.reverse ++ S)) rfl hsize (argsL := argsL) (rest := S) (lenOf hds hlen) rfl (by show 2 * 0 + _ ≤ _; omega) hd (fun _ _ => ⟨has, eT, hc, hs⟩)
  dsimp only [Pt.U, Pt.locs, Pt.cells, Pt.slots] at X' e1 e2 e3 st hq
  subst e1 e2 e3
  exact (k _ _ _ X' hq).st st
theorem Go.callI (X : Stand p l e R s m args below meth c T locs cells slots) (hx : p.tables.exec = Jvm.exec) (hZ : Z.Warmed39 s.vm) {index : Nat} {y : MethodName} {bytes : ByteArray} {maxL : Nat} {rm : Room} {as' : Array Value} {Qy : Option Value → Heap → List Loc → Prop} (hM : MetFree l y (head1 [Jvm.Cond.code y bytes maxL none] rm) (fun a U => a = as' ∧ Z.Warmed39 U.vm ∧ U.heap = h) (fun _ _ _ _ _ => True) (fun _ U o U' => ∃ v L, o = .returned v ∧ Qy v U'.heap L ∧ FrameEnd U o U' L rm.cells rm.slots)) (hy1 : y.name = "<init>") (hown : s.vm.findClass own = some m.cls) (wl : (Jvm.Cond.methodLink own index y).before a0 Z = true) (ws : (Jvm.Cond.instanceMethod y).before a0 Z = true) (wi : (Jvm.Cond.initialized y.cls).before a0 Z = true) (wc : (Jvm.Cond.code y bytes maxL none).before a0 Z = true) (hy : y.cls ≠ "java/lang/invoke/MethodHandle" ∧ y.cls ≠ "java/lang/invoke/VarHandle") (eT : T.heap = h) {a : Addr} {W : Nat} (hsize : Ls.size = c.maxLocals) {argsL : List Value} (hW : (S.map fun v => v.category).sum ≤ W) (hf : rm.frames + 1 ≤ R.frames) (hl : W + (maxL + 11) + rm.locals ≤ R.locals) (hc : cells + rm.cells ≤ R.cells) (hs : slots + rm.slots ≤ R.slots) {ps : List FieldType} {r : Option FieldType} (hds : parseMethodDescriptor y.desc = some ⟨ps, r⟩) (hlen : argsL.length = ps.length) (has : (.ref a :: argsL).toArray = as') (hd : decode c.code pc = .ok (.invokespecial index, 3)) (k : ∀ v T' L, Stand p l e R s m args below meth c T' (locs ++ L) (cells + rm.cells) (slots + rm.slots) → Qy v T'.heap L → Go p e below F Q T' (mkF m (pc + 3) Ls (v.toList ++ S))) : Go p e below F Q T (mkF m pc Ls (argsL.reverse ++ .ref a :: S)) := by
  obtain ⟨_, _, ⟨T', L', k', n'⟩, -, X', ⟨L, hq, e1, e2, e3⟩, st⟩ := X.specialBack hx hy1 hown (mvT hZ wl) (mvT hZ ws) (mvT hZ wc) hy (backOf (W := W) hM hZ wc wi hf hl) (g := mkF m pc Ls (argsL.reverse ++ .ref a :: S)) rfl hsize (Steps.refl _) (a := a) (argsL := argsL) (rest := S) (lenOf hds hlen) rfl (by show 2 * 0 + _ ≤ _; omega) hd (fun _ _ => ⟨has, eT, hc, hs⟩)
  dsimp only [Pt.U, Pt.locs, Pt.cells, Pt.slots] at X' e1 e2 e3 st hq
  subst e1 e2 e3
  exact (k _ _ _ X' hq).tr st
theorem Go.callV (X : Stand p l e R s m args below meth c T locs cells slots) (hx : p.tables.exec = Jvm.exec) (hZ : Z.Warmed39 s.vm) {index : Nat} {K : String} {y : MethodName} {bytes : ByteArray} {maxL : Nat} {ret : Option FieldType} {rm : Room} {as' : Array Value} {Qy : Option Value → Heap → List Loc → Prop} (hM : MetFree l y (head1 [Jvm.Cond.code y bytes maxL ret] rm) (fun a U => a = as' ∧ Z.Warmed39 U.vm ∧ U.heap = h) (fun _ _ _ _ _ => True) (fun _ U o U' => ∃ v L, o = .returned v ∧ Qy v U'.heap L ∧ FrameEnd U o U' L rm.cells rm.slots)) {y0 : MethodName} (hy : y0.cls ≠ "java/lang/invoke/MethodHandle" ∧ y0.cls ≠ "java/lang/invoke/VarHandle") (hown : s.vm.findClass own = some m.cls) (wl : (Jvm.Cond.methodLink own index y0).before a0 Z = true) (wd : (Jvm.Cond.declares y0).before a0 Z = true) (hnf : NotFace s y0) (wsel : (Jvm.Cond.selects K y0 y).before a0 Z = true) (ws : (Jvm.Cond.instanceMethod y).before a0 Z = true) (wi : (Jvm.Cond.initialized y.cls).before a0 Z = true) (wc : (Jvm.Cond.code y bytes maxL ret).before a0 Z = true) (eT : T.heap = h) {a : Addr} (E : Exa Z h a K) {W : Nat} (hsize : Ls.size = c.maxLocals) {argsL : List Value} (hW : (S.map fun v => v.category).sum ≤ W) (hf : rm.frames + 1 ≤ R.frames) (hl : W + (maxL + 11) + rm.locals ≤ R.locals) (hc : cells + rm.cells ≤ R.cells) (hs : slots + rm.slots ≤ R.slots) {ps : List FieldType} {r : Option FieldType} (hds : parseMethodDescriptor y0.desc = some ⟨ps, r⟩) (hlen : argsL.length = ps.length) (has : (.ref a :: argsL).toArray = as') (hd : decode c.code pc = .ok (.invokevirtual index, 3)) (k : ∀ v T' L, Stand p l e R s m args below meth c T' (locs ++ L) (cells + rm.cells) (slots + rm.slots) → Qy v T'.heap L → Go p e below F Q T' (mkF m (pc + 3) Ls (v.toList ++ S))) : Go p e below F Q T (mkF m pc Ls (argsL.reverse ++ .ref a :: S)) := by
  obtain ⟨cq, kq, q1, q2, q3⟩ := isOf hZ eT E
  obtain ⟨_, _, ⟨T', L', k', n'⟩, -, X', ⟨L, hq, e1, e2, e3⟩, st⟩ := X.virtualBack hx hown (mvT hZ wl) (mvT hZ wd) hnf (mvT hZ wsel) (mvT hZ ws) hy (backOf (W := W) hM hZ wc wi hf hl) q1 q3 (g := mkF m pc Ls (argsL.reverse ++ .ref a :: S)) rfl hsize (Steps.refl _) (argsL := argsL) (rest := S) (lenOf hds hlen) rfl (by show 2 * 0 + _ ≤ _; omega) hd (fun _ _ => ⟨has, eT, hc, hs⟩)
  dsimp only [Pt.U, Pt.locs, Pt.cells, Pt.slots] at X' e1 e2 e3 st hq
  subst e1 e2 e3
  exact (k _ _ _ X' hq).tr st
theorem Go.instY (X : Stand p l e R s m args below meth c T locs cells slots) (hx : p.tables.exec = Jvm.exec) (hZ : Z.Warmed39 s.vm) {K : String} {index : Nat} (hown : s.vm.findClass own = some m.cls) (w : (Jvm.Cond.classLink own index K).before a0 Z = true) (eT : T.heap = h) {a : Addr} (Fl : Ins Z h a K true) (hd : decode c.code pc = .ok (.instanceof index, 3)) (k : ∀ T', Stand p l e R s m args below meth c T' locs cells slots → T'.heap = h → Go p e below F Q T' (mkF m (pc + 3) Ls (.int 1 :: S))) : Go p e below F Q T (mkF m pc Ls (.ref a :: S)) := by
  obtain ⟨T', X', e', st⟩ := Jvm.RoadKit.instY X hx hZ hown w eT Fl (g := mkF m pc Ls (.ref a :: S)) rfl rfl hd
  exact (k T' X' e').st st
theorem Go.castY (X : Stand p l e R s m args below meth c T locs cells slots) (hx : p.tables.exec = Jvm.exec) (hZ : Z.Warmed39 s.vm) {K : String} {index : Nat} (hown : s.vm.findClass own = some m.cls) (w : (Jvm.Cond.classLink own index K).before a0 Z = true) (eT : T.heap = h) {a : Addr} (Fl : Ins Z h a K true) (hd : decode c.code pc = .ok (.checkcast index, 3)) (k : ∀ T', Stand p l e R s m args below meth c T' locs cells slots → T'.heap = h → Go p e below F Q T' (mkF m (pc + 3) Ls (.ref a :: S))) : Go p e below F Q T (mkF m pc Ls (.ref a :: S)) := by
  obtain ⟨T', X', e', st⟩ := Jvm.RoadKit.castY X hx hZ hown w eT Fl (g := mkF m pc Ls (.ref a :: S)) rfl rfl hd
  exact (k T' X' e').st st
theorem Go.instNo (X : Stand p l e R s m args below meth c T locs cells slots) (hx : p.tables.exec = Jvm.exec) (hZ : Z.Warmed39 s.vm) {K K0 : String} {index : Nat} (hown : s.vm.findClass own = some m.cls) (w : (Jvm.Cond.classLink own index K).before a0 Z = true) (eT : T.heap = h) {a : Addr} (E : Exa Z h a K0) (Fl : ∃ c t, Z.vm.findClass K0 = some c ∧ Z.vm.findClass K = some t ∧ Z.vm.assignable c t = false) (hd : decode c.code pc = .ok (.instanceof index, 3)) (k : ∀ T', Stand p l e R s m args below meth c T' locs cells slots → T'.heap = h → Go p e below F Q T' (mkF m (pc + 3) Ls (.int 0 :: S))) : Go p e below F Q T (mkF m pc Ls (.ref a :: S)) := by
  obtain ⟨T', X', e', st⟩ := Jvm.RoadKit.instNo X hx hZ hown w eT E Fl (g := mkF m pc Ls (.ref a :: S)) rfl rfl hd
  exact (k T' X' e').st st
theorem Go.instNull (X : Stand p l e R s m args below meth c T locs cells slots) (hx : p.tables.exec = Jvm.exec) {index : Nat} (hd : decode c.code pc = .ok (.instanceof index, 3)) (h : Go p e below F Q T (mkF m (pc + 3) Ls (.int 0 :: S))) : Go p e below F Q T (mkF m pc Ls (.null :: S)) := h.st fun _ k => X.instanceofNull hx (g := mkF m pc Ls (.null :: S)) rfl rfl hd _ k
theorem Go.castNull (X : Stand p l e R s m args below meth c T locs cells slots) (hx : p.tables.exec = Jvm.exec) {index : Nat} (hd : decode c.code pc = .ok (.checkcast index, 3)) (h : Go p e below F Q T (mkF m (pc + 3) Ls (.null :: S))) : Go p e below F Q T (mkF m pc Ls (.null :: S)) := h.st fun _ k => X.checkcastNull hx (g := mkF m pc Ls (.null :: S)) rfl rfl hd _ k
theorem own_noSub {K0 S0 K : String} {n : Nat} (w : (Jvm.Cond.superclass K0 S0).before a0 Z = true) (wk : (Jvm.Cond.instantiable K n).before a0 Z = true) (q : NS Z K0 K) (hn : K0 ≠ K) : ∃ c t, Z.vm.findClass K0 = some c ∧ Z.vm.findClass K = some t ∧ Z.vm.assignable c t = false := by
  obtain ⟨c, t, h0, g0, n3⟩ := q
  obtain ⟨p, k, kp, h1, h2, h3, h4, h5, -, h7⟩ := Cond.superclass_spec h0 w
  obtain ⟨t', k', g1, g2, g3, g4, -⟩ := Cond.instantiable_spec wk
  cases g0.symm.trans g1
  have g5 : k'.isInterface = false := by simp only [Bool.or_eq_false_iff] at g4; exact g4.1
  have ne := ids_ne h0 g0 hn
  refine ⟨c, t, h0, g0, ?_⟩
  show Z.vm.assignableAux (255 + 1) c t = false
  simp [Vm.assignableAux, ne, h2, g2, h5, g3, g5, Vm.isSubclass, n3]
theorem own_nsRoot {O K : String} {n : Nat} (w : (Jvm.Cond.noSuperclass O).before a0 Z = true) (wk : (Jvm.Cond.instantiable K n).before a0 Z = true) (hn : O ≠ K) : NS Z O K := by
  obtain ⟨c, k, h1, h2, h3, -, -⟩ := Cond.noSuperclass_spec w
  obtain ⟨t, k', g1, -⟩ := Cond.instantiable_spec wk
  have ne := ids_ne h1 g1 hn
  refine ⟨c, t, h1, g1, fun fuel => ?_⟩
  cases fuel with
  | zero => rfl
  | succ f => simp [Vm.isSubclassAux, ne, h2, h3]
theorem Sta.own_keep {h' : Heap} {K n d : String} {v : Value} {ws : List Addr} (Fl : Sta Z h K n d v) (k : Keep h h' ws) (q : ∀ x ∈ ws, ∀ cell : Cell, h[x]? = some cell → cell.vm.isStatics = false) : Sta Z h' K n d v := by
  obtain ⟨cf, i, kk, f, st, cell, h1, h2, h3, h4, h5, h6, h7⟩ := Fl
  refine ⟨cf, i, kk, f, st, cell, h1, h2, h3, h4, k.2.1 _ _ h5 (fun hm => ?_), h6, h7⟩
  have := q _ hm _ h5
  rw [h6] at this; cases this
theorem Go.newP (X : Stand p l e R s m args below meth c T locs cells slots) (hx : p.tables.exec = Jvm.exec) (hZ : Z.Warmed39 s.vm) {aty : ArrayType} (w : (Jvm.Cond.arrayClass (newarray.typeOf aty)).before a0 Z = true) (eT : T.heap = h) {n : Int32} (hd : decode c.code pc = .ok (.newarray aty, 2)) (hn : ¬ n < 0) {cap : Nat} (hcap : n.toNatClampNeg ≤ cap) (hb : cap * 8 ≤ 536870912) (hc : cells + 1 ≤ R.cells) (hl : slots + cap ≤ R.slots) (k : ∀ T' h' cA a, a = h.size → Stand p l e R s m args below meth c T' locs (cells + 1) (slots + cap) → T'.heap = h' → Ext h h' → Arr Z h' a (newA cA (newarray.typeOf aty) n) (newarray.typeOf aty) → Go p e below F Q T' (mkF m (pc + 2) Ls (.ref a :: S))) : Go p e below F Q T (mkF m pc Ls (.int n :: S)) := by
  obtain ⟨T', h', cA, X', e', E', A', st⟩ := Jvm.RoadKit.newP X hx hZ w eT (g := mkF m pc Ls (.int n :: S)) rfl hd rfl hn hcap hb hc hl
  exact (k T' h' cA _ rfl X' e' E' A').st st
theorem Go.stI (X : Stand p l e R s m args below meth c T locs cells slots) (hx : p.tables.exec = Jvm.exec) (hZ : Z.Warmed39 s.vm) (eT : T.heap = h) {a : Addr} {cl : Cell} (A : Arr Z h a cl .int) {j : Int32} {x : Int32} (hj : ¬ (j < 0 ∨ cl.slots.size ≤ j.toNatClampNeg)) (hd : decode c.code pc = .ok (.iastore, 1)) (k : ∀ T' h', Stand p l e R s m args below meth c T' (locs ++ [⟨a, j.toNatClampNeg⟩]) cells slots → T'.heap = h' → Wr h h' a j.toNatClampNeg (.int x) → Go p e below F Q T' (mkF m (pc + 1) Ls S)) : Go p e below F Q T (mkF m pc Ls (.int x :: .int j :: .ref a :: S)) := by
  obtain ⟨T', h', X', e', W', st⟩ := Jvm.RoadKit.stI X hx hZ eT A hj (g := mkF m pc Ls (.int x :: .int j :: .ref a :: S)) rfl rfl hd
  exact (k T' h' X' e' W').st st
theorem Go.stC (X : Stand p l e R s m args below meth c T locs cells slots) (hx : p.tables.exec = Jvm.exec) (hZ : Z.Warmed39 s.vm) (eT : T.heap = h) {a : Addr} {cl : Cell} (A : Arr Z h a cl .char) {j : Int32} {x : Int32} (hj : ¬ (j < 0 ∨ cl.slots.size ≤ j.toNatClampNeg)) (hd : decode c.code pc = .ok (.castore, 1)) (k : ∀ T' h', Stand p l e R s m args below meth c T' (locs ++ [⟨a, j.toNatClampNeg⟩]) cells slots → T'.heap = h' → Wr h h' a j.toNatClampNeg (.int (nar .char x)) → Go p e below F Q T' (mkF m (pc + 1) Ls S)) : Go p e below F Q T (mkF m pc Ls (.int x :: .int j :: .ref a :: S)) := by
  obtain ⟨T', h', X', e', W', st⟩ := Jvm.RoadKit.stC X hx hZ eT A hj (g := mkF m pc Ls (.int x :: .int j :: .ref a :: S)) rfl rfl hd
  exact (k T' h' X' e' W').st st
theorem Go.stB (X : Stand p l e R s m args below meth c T locs cells slots) (hx : p.tables.exec = Jvm.exec) (hZ : Z.Warmed39 s.vm) (eT : T.heap = h) {a : Addr} {cl : Cell} (A : Arr Z h a cl .byte) {j : Int32} {x : Int32} (hj : ¬ (j < 0 ∨ cl.slots.size ≤ j.toNatClampNeg)) (hd : decode c.code pc = .ok (.bastore, 1)) (k : ∀ T' h', Stand p l e R s m args below meth c T' (locs ++ [⟨a, j.toNatClampNeg⟩]) cells slots → T'.heap = h' → Wr h h' a j.toNatClampNeg (.int (nar .byte x)) → Go p e below F Q T' (mkF m (pc + 1) Ls S)) : Go p e below F Q T (mkF m pc Ls (.int x :: .int j :: .ref a :: S)) := by
  obtain ⟨T', h', X', e', W', st⟩ := Jvm.RoadKit.stB X hx hZ eT A hj (g := mkF m pc Ls (.int x :: .int j :: .ref a :: S)) rfl rfl hd
  exact (k T' h' X' e' W').st st
theorem Go.stZ (X : Stand p l e R s m args below meth c T locs cells slots) (hx : p.tables.exec = Jvm.exec) (hZ : Z.Warmed39 s.vm) (eT : T.heap = h) {a : Addr} {cl : Cell} (A : Arr Z h a cl .boolean) {j : Int32} {x : Int32} (hj : ¬ (j < 0 ∨ cl.slots.size ≤ j.toNatClampNeg)) (hd : decode c.code pc = .ok (.bastore, 1)) (k : ∀ T' h', Stand p l e R s m args below meth c T' (locs ++ [⟨a, j.toNatClampNeg⟩]) cells slots → T'.heap = h' → Wr h h' a j.toNatClampNeg (.int (nar .boolean x)) → Go p e below F Q T' (mkF m (pc + 1) Ls S)) : Go p e below F Q T (mkF m pc Ls (.int x :: .int j :: .ref a :: S)) := by
  obtain ⟨T', h', X', e', W', st⟩ := Jvm.RoadKit.stZ X hx hZ eT A hj (g := mkF m pc Ls (.int x :: .int j :: .ref a :: S)) rfl rfl hd
  exact (k T' h' X' e' W').st st
theorem Go.stS (X : Stand p l e R s m args below meth c T locs cells slots) (hx : p.tables.exec = Jvm.exec) (hZ : Z.Warmed39 s.vm) (eT : T.heap = h) {a : Addr} {cl : Cell} (A : Arr Z h a cl .short) {j : Int32} {x : Int32} (hj : ¬ (j < 0 ∨ cl.slots.size ≤ j.toNatClampNeg)) (hd : decode c.code pc = .ok (.sastore, 1)) (k : ∀ T' h', Stand p l e R s m args below meth c T' (locs ++ [⟨a, j.toNatClampNeg⟩]) cells slots → T'.heap = h' → Wr h h' a j.toNatClampNeg (.int (nar .short x)) → Go p e below F Q T' (mkF m (pc + 1) Ls S)) : Go p e below F Q T (mkF m pc Ls (.int x :: .int j :: .ref a :: S)) := by
  obtain ⟨T', h', X', e', W', st⟩ := Jvm.RoadKit.stS X hx hZ eT A hj (g := mkF m pc Ls (.int x :: .int j :: .ref a :: S)) rfl rfl hd
  exact (k T' h' X' e' W').st st
theorem Go.stJ (X : Stand p l e R s m args below meth c T locs cells slots) (hx : p.tables.exec = Jvm.exec) (hZ : Z.Warmed39 s.vm) (eT : T.heap = h) {a : Addr} {cl : Cell} (A : Arr Z h a cl .long) {j : Int32} {x : Int64} (hj : ¬ (j < 0 ∨ cl.slots.size ≤ j.toNatClampNeg)) (hd : decode c.code pc = .ok (.lastore, 1)) (k : ∀ T' h', Stand p l e R s m args below meth c T' (locs ++ [⟨a, j.toNatClampNeg⟩]) cells slots → T'.heap = h' → Wr h h' a j.toNatClampNeg (.long x) → Go p e below F Q T' (mkF m (pc + 1) Ls S)) : Go p e below F Q T (mkF m pc Ls (.long x :: .int j :: .ref a :: S)) := by
  obtain ⟨T', h', X', e', W', st⟩ := Jvm.RoadKit.stJ X hx hZ eT A hj (g := mkF m pc Ls (.long x :: .int j :: .ref a :: S)) rfl rfl hd
  exact (k T' h' X' e' W').st st
theorem Go.iaload (X : Stand p l e R s m args below meth c T locs cells slots) (hx : p.tables.exec = Jvm.exec) (hZ : Z.Warmed39 s.vm) (eT : T.heap = h) {a : Addr} {cl : Cell} (A : Arr Z h a cl .int) {j : Int32} {v : Value} (hj : ¬ (j < 0 ∨ cl.slots.size ≤ j.toNatClampNeg)) (hv : cl.slots[j.toNatClampNeg]? = some v) (hd : decode c.code pc = .ok (.iaload, 1)) (k : Go p e below F Q T (mkF m (pc + 1) Ls (v :: S))) : Go p e below F Q T (mkF m pc Ls (.int j :: .ref a :: S)) := k.st fun _ q => X.iaload hx (by rw [eT]; exact A.1) (State.isArrayOf_alike hZ.alike A.2.1) A.2.2 hj hv (g := mkF m pc Ls (.int j :: .ref a :: S)) rfl rfl hd _ q
theorem Go.caload (X : Stand p l e R s m args below meth c T locs cells slots) (hx : p.tables.exec = Jvm.exec) (hZ : Z.Warmed39 s.vm) (eT : T.heap = h) {a : Addr} {cl : Cell} (A : Arr Z h a cl .char) {j : Int32} {v : Value} (hj : ¬ (j < 0 ∨ cl.slots.size ≤ j.toNatClampNeg)) (hv : cl.slots[j.toNatClampNeg]? = some v) (hd : decode c.code pc = .ok (.caload, 1)) (k : Go p e below F Q T (mkF m (pc + 1) Ls (v :: S))) : Go p e below F Q T (mkF m pc Ls (.int j :: .ref a :: S)) := k.st fun _ q => X.caload hx (by rw [eT]; exact A.1) (State.isArrayOf_alike hZ.alike A.2.1) A.2.2 hj hv (g := mkF m pc Ls (.int j :: .ref a :: S)) rfl rfl hd _ q
theorem Go.saload (X : Stand p l e R s m args below meth c T locs cells slots) (hx : p.tables.exec = Jvm.exec) (hZ : Z.Warmed39 s.vm) (eT : T.heap = h) {a : Addr} {cl : Cell} (A : Arr Z h a cl .short) {j : Int32} {v : Value} (hj : ¬ (j < 0 ∨ cl.slots.size ≤ j.toNatClampNeg)) (hv : cl.slots[j.toNatClampNeg]? = some v) (hd : decode c.code pc = .ok (.saload, 1)) (k : Go p e below F Q T (mkF m (pc + 1) Ls (v :: S))) : Go p e below F Q T (mkF m pc Ls (.int j :: .ref a :: S)) := k.st fun _ q => X.saload hx (by rw [eT]; exact A.1) (State.isArrayOf_alike hZ.alike A.2.1) A.2.2 hj hv (g := mkF m pc Ls (.int j :: .ref a :: S)) rfl rfl hd _ q
theorem Go.laload (X : Stand p l e R s m args below meth c T locs cells slots) (hx : p.tables.exec = Jvm.exec) (hZ : Z.Warmed39 s.vm) (eT : T.heap = h) {a : Addr} {cl : Cell} (A : Arr Z h a cl .long) {j : Int32} {v : Value} (hj : ¬ (j < 0 ∨ cl.slots.size ≤ j.toNatClampNeg)) (hv : cl.slots[j.toNatClampNeg]? = some v) (hd : decode c.code pc = .ok (.laload, 1)) (k : Go p e below F Q T (mkF m (pc + 1) Ls (v :: S))) : Go p e below F Q T (mkF m pc Ls (.int j :: .ref a :: S)) := k.st fun _ q => X.laload hx (by rw [eT]; exact A.1) (State.isArrayOf_alike hZ.alike A.2.1) A.2.2 hj hv (g := mkF m pc Ls (.int j :: .ref a :: S)) rfl rfl hd _ q
theorem Go.baload (X : Stand p l e R s m args below meth c T locs cells slots) (hx : p.tables.exec = Jvm.exec) (hZ : Z.Warmed39 s.vm) (eT : T.heap = h) {a : Addr} {cl : Cell} (A : Arr Z h a cl .byte) {j : Int32} {v : Value} (hj : ¬ (j < 0 ∨ cl.slots.size ≤ j.toNatClampNeg)) (hv : cl.slots[j.toNatClampNeg]? = some v) (hd : decode c.code pc = .ok (.baload, 1)) (k : Go p e below F Q T (mkF m (pc + 1) Ls (v :: S))) : Go p e below F Q T (mkF m pc Ls (.int j :: .ref a :: S)) := k.st fun _ q => X.baloadBytes hx (by rw [eT]; exact A.1) (State.isArrayOf_alike hZ.alike A.2.1) A.2.2 hj hv (g := mkF m pc Ls (.int j :: .ref a :: S)) rfl rfl hd _ q
theorem Go.aaload (X : Stand p l e R s m args below meth c T locs cells slots) (hx : p.tables.exec = Jvm.exec) (hZ : Z.Warmed39 s.vm) (eT : T.heap = h) {a : Addr} {cl : Cell} {ty : FieldType} (A : Arr Z h a cl ty) (hty : ty.isReference = true) {j : Int32} {v : Value} (hj : ¬ (j < 0 ∨ cl.slots.size ≤ j.toNatClampNeg)) (hv : cl.slots[j.toNatClampNeg]? = some v) (hd : decode c.code pc = .ok (.aaload, 1)) (k : Go p e below F Q T (mkF m (pc + 1) Ls (v :: S))) : Go p e below F Q T (mkF m pc Ls (.int j :: .ref a :: S)) := k.st fun _ q => X.aaload hx (by rw [eT]; exact A.1) (State.isArrayOf_alike hZ.alike A.2.1) hty A.2.2 hj hv (g := mkF m pc Ls (.int j :: .ref a :: S)) rfl rfl hd _ q
theorem Go.arraylength (X : Stand p l e R s m args below meth c T locs cells slots) (hx : p.tables.exec = Jvm.exec) (hZ : Z.Warmed39 s.vm) (eT : T.heap = h) {a : Addr} {cl : Cell} {ty : FieldType} (A : Arr Z h a cl ty) {n : Int32} (S1 : cl.slots.size = n.toNatClampNeg) (hn : ¬ n < 0) (hd : decode c.code pc = .ok (.arraylength, 1)) (k : Go p e below F Q T (mkF m (pc + 1) Ls (.int n :: S))) : Go p e below F Q T (mkF m pc Ls (.ref a :: S)) := k.st fun _ q => X.arraylength hx (by rw [eT]; exact A.1) (State.isArrayOf_alike hZ.alike A.2.1) (g := mkF m pc Ls (.ref a :: S)) rfl rfl hd _ (by rw [len_of S1 hn]; exact q)
end OwnKit
theorem d6_0 : decode jdk_18_method_1_code 0 = .ok (.aload_n 0, 1) := by decide +kernel
theorem d6_1 : decode jdk_18_method_1_code 1 = .ok (.invokespecial 1, 3) := by decide +kernel
theorem d6_4 : decode jdk_18_method_1_code 4 = .ok (.return_, 1) := by decide +kernel
theorem pn_6 : plainName "java/lang/Number" = true := by first | (simp [plainName, overriddenIn]; done) | decide +kernel
theorem ef_rm6 (m_ : MethodId) (a : Addr) : entryFrame m_ #[(.ref a)] 1 = mkF m_ 0 #[.val (.ref a)] [] := by first | (simp [entryFrame, mkF, argsToLocals, Value.category]; done) | rfl
def Q6 (Z : State) (a : Addr)  (h0 : Heap) (n0 : Nat) (v : Option Value) (h : Heap) (L : List Loc) : Prop := v = none ∧ Fr n0 L ∧ h = h0
set_option maxRecDepth 65536 in
set_option maxHeartbeats 40000000 in
theorem rm6 (l : Launch) (Z : State) (a0 : Array Value) (hw : ∀ d ∈ tables_1, d.before a0 Z = true) (ws : List Jvm.Cond) (a : Addr)  (h0 : Heap) (n0 : Nat) (Z0 : n0 ≤ h0.size)  :
    MetFree l (⟨"java/lang/Number", "<init>", "()V"⟩ : MethodName) (head1 (Jvm.Cond.code (⟨"java/lang/Number", "<init>", "()V"⟩ : MethodName) jdk_18_method_1_code 1 none :: ws) ({ frames := 1, cells := 0, slots := 0, locals := 12 } : Room)) (fun a_ U_ => a_ = #[(.ref a)] ∧ Z.Warmed39 U_.vm ∧ U_.heap = h0) (fun _ _ _ _ _ => True) (fun _ U_ o_ V_ => ∃ v_ L_, o_ = .returned v_ ∧ Q6 Z a h0 n0 v_ V_.heap L_ ∧ FrameEnd U_ o_ V_ L_ ({ frames := 1, cells := 0, slots := 0, locals := 12 } : Room).cells ({ frames := 1, cells := 0, slots := 0, locals := 12 } : Room).slots) := by
  refine metOf (Q := Q6 Z a h0 n0) (plainFor_of_name pn_6) ?_
  intro p_ e_ s_ m_ below meth c_ s₁ X0 hx hby hml hret hlk hZ hown hnm e0
  rw [ef_rm6]
  have N0 := Fr.nil n0
  show Go p_ e_ below _ _ s₁ (mkF m_ 0 #[.val (.ref a)] [])
  refine Go.aloadN X0 hx (hb hby d6_0) rfl rfl ?_
  refine Go.initO X0 hx hZ hown (hw _ (List.mem_of_getElem? (i := 39) rfl)) (hw _ (List.mem_of_getElem? (i := 40) rfl)) (hw _ (List.mem_of_getElem? (i := 41) rfl)) e0 (by rw [hml]; rfl) (hb hby d6_1) (by decide) (W := 0) (Nat.le_of_ble_eq_true rfl) (by decide) ?_
  intro T1 X1 e1
  show Go p_ e_ below _ _ T1 (mkF m_ 4 #[.val (.ref a)] [])
  refine Go.retV X1 hx hret hlk (hb hby d6_4) (by decide) (by decide) ?_
  exact ⟨rfl, N0, e1⟩
theorem pd_ocV : parseMethodDescriptor "()V" = some ⟨[], none⟩ := by decide +kernel
theorem d5_0 : decode jdk_33_method_23_code 0 = .ok (.aload_n 0, 1) := by decide +kernel
theorem d5_1 : decode jdk_33_method_23_code 1 = .ok (.invokespecial 202, 3) := by decide +kernel
theorem d5_4 : decode jdk_33_method_23_code 4 = .ok (.aload_n 0, 1) := by decide +kernel
theorem d5_5 : decode jdk_33_method_23_code 5 = .ok (.iload_n 1, 1) := by decide +kernel
theorem d5_6 : decode jdk_33_method_23_code 6 = .ok (.putfield 205, 3) := by decide +kernel
theorem d5_9 : decode jdk_33_method_23_code 9 = .ok (.return_, 1) := by decide +kernel
theorem pn_5 : plainName "java/lang/Integer" = true := by first | (simp [plainName, overriddenIn]; done) | decide +kernel
theorem ef_rm5 (m_ : MethodId) (a : Addr) (p1 : Int32) : entryFrame m_ #[(.ref a), (.int p1)] 2 = mkF m_ 0 #[.val (.ref a), .val (.int p1)] [] := by first | (simp [entryFrame, mkF, argsToLocals, Value.category]; done) | rfl
def Q5 (Z : State) (a : Addr) (p1 : Int32)  (h0 : Heap) (n0 : Nat) (v : Option Value) (h : Heap) (L : List Loc) : Prop := v = none ∧ Fr n0 L ∧ Keep h0 h [a] ∧ Exa Z h a "java/lang/Integer" ∧ Fld Z h a "java/lang/Integer" "value" "I" (.int p1)
set_option maxRecDepth 65536 in
set_option maxHeartbeats 40000000 in
theorem rm5 (l : Launch) (Z : State) (a0 : Array Value) (hw : ∀ d ∈ tables_1, d.before a0 Z = true) (ws : List Jvm.Cond) (a : Addr) (p1 : Int32)  (h0 : Heap) (n0 : Nat) (Z0 : n0 ≤ h0.size) (F_value : Fld Z h0 a "java/lang/Integer" "value" "I" (.int (0 : Int32))) (E_a : Exa Z h0 a "java/lang/Integer") (g_a : n0 ≤ a) :
    MetFree l (⟨"java/lang/Integer", "<init>", "(I)V"⟩ : MethodName) (head1 (Jvm.Cond.code (⟨"java/lang/Integer", "<init>", "(I)V"⟩ : MethodName) jdk_33_method_23_code 2 none :: ws) ({ frames := 2, cells := 0, slots := 0, locals := 24 } : Room)) (fun a_ U_ => a_ = #[(.ref a), (.int p1)] ∧ Z.Warmed39 U_.vm ∧ U_.heap = h0) (fun _ _ _ _ _ => True) (fun _ U_ o_ V_ => ∃ v_ L_, o_ = .returned v_ ∧ Q5 Z a p1 h0 n0 v_ V_.heap L_ ∧ FrameEnd U_ o_ V_ L_ ({ frames := 2, cells := 0, slots := 0, locals := 24 } : Room).cells ({ frames := 2, cells := 0, slots := 0, locals := 24 } : Room).slots) := by
  refine metOf (Q := Q5 Z a p1 h0 n0) (plainFor_of_name pn_5) ?_
  intro p_ e_ s_ m_ below meth c_ s₁ X0 hx hby hml hret hlk hZ hown hnm e0
  rw [ef_rm5]
  have N0 := Fr.nil n0
  show Go p_ e_ below _ _ s₁ (mkF m_ 0 #[.val (.ref a), .val (.int p1)] [])
  refine Go.aloadN X0 hx (hb hby d5_0) rfl rfl ?_
  refine Go.callI X0 hx hZ (rm6 l Z a0 hw [] a h0 n0 Z0) rfl hown (hw _ (List.mem_of_getElem? (i := 33) rfl)) (hw _ (List.mem_of_getElem? (i := 34) rfl)) (hw _ (List.mem_of_getElem? (i := 37) rfl)) (hw _ (List.mem_of_getElem? (i := 38) rfl)) (by decide) e0 (a := a) (W := 0) (by rw [hml]; rfl) (argsL := []) (S := []) (Nat.le_of_ble_eq_true rfl) (by decide) (by decide) (by decide) (by decide) pd_ocV rfl rfl (hb hby d5_1) ?_
  rintro _ T1 L1 X1 ⟨rfl, N1q, e1⟩
  have N1 := Fr.app N0 N1q
  show Go p_ e_ below _ _ T1 (mkF m_ 4 #[.val (.ref a), .val (.int p1)] [])
  refine Go.aloadN X1 hx (hb hby d5_4) rfl rfl ?_
  refine Go.iloadN X1 hx (hb hby d5_5) rfl ?_
  refine Go.putF X1 hx hZ hown (host := "") (Or.inl (hw _ (List.mem_of_getElem? (i := 13) rfl))) Via.refl e1 F_value E_a (Or.inr ⟨(hw _ (List.mem_of_getElem? (i := 14) rfl)), rfl, hnm⟩) (hw _ (List.mem_of_getElem? (i := 28) rfl)) (ty := .int) (by decide) rfl rfl (hb hby d5_6) ?_
  intro T2 h2 X2 e2 W2
  have N2 := Fr.snoc X2 N1 g_a
  have E_2_a := E_a.wr W2
  have F_2_a_value := F_value.same W2
  have K2 : Keep h0 h2 [a] := (Keep.refl h0 [a]).wr W2 (Or.inl (List.mem_of_getElem? (i := 0) rfl))
  have Z2 : n0 ≤ h2.size := by rw [W2.size]; exact Z0
  show Go p_ e_ below _ _ T2 (mkF m_ 9 #[.val (.ref a), .val (.int p1)] [])
  refine Go.retV X2 hx hret hlk (hb hby d5_9) (by decide) (by decide) ?_
  rw [e2]
  exact ⟨rfl, N2, K2, E_2_a, F_2_a_value⟩
theorem own_ix (q : Int32) (h1 : ¬ q < (-128 : Int32)) (h2 : ¬ (127 : Int32) < q) : (¬ (q + (128 : Int32)) < 0 ∧ (q + (128 : Int32)) < (256 : Int32)) ∧ ((q + (128 : Int32)) - 128) = q := by
  have e1 : (-128 : Int32).toInt = -128 := rfl
  have e2 : (127 : Int32).toInt = 127 := rfl
  have e3 : (128 : Int32).toInt = 128 := rfl
  have e4 : (256 : Int32).toInt = 256 := rfl
  have e5 : (0 : Int32).toInt = 0 := rfl
  rw [Int32.lt_iff_toInt_lt] at h1 h2
  have c2 := c_iadd q 128
  have c3 := c_isub (q + 128) 128
  have r2 := rng32 (q + 128)
  have r3 := rng32 (q + 128 - 128)
  rw [← Int32.toInt_inj, Int32.lt_iff_toInt_lt, Int32.lt_iff_toInt_lt]
  omega
theorem pd_oIcV : parseMethodDescriptor "(I)V" = some ⟨[.int], none⟩ := by decide +kernel
theorem d1_0 : decode jdk_33_method_22_code 0 = .ok (.iload_n 0, 1) := by decide +kernel
theorem d1_1 : decode jdk_33_method_22_code 1 = .ok (.bipush (-128), 2) := by decide +kernel
theorem d1_3 : decode jdk_33_method_22_code 3 = .ok (.if_icmp .lt 20, 3) := by decide +kernel
theorem d1_6 : decode jdk_33_method_22_code 6 = .ok (.iload_n 0, 1) := by decide +kernel
theorem d1_7 : decode jdk_33_method_22_code 7 = .ok (.getstatic 191, 3) := by decide +kernel
theorem d1_10 : decode jdk_33_method_22_code 10 = .ok (.if_icmp .gt 13, 3) := by decide +kernel
theorem d1_13 : decode jdk_33_method_22_code 13 = .ok (.getstatic 195, 3) := by decide +kernel
theorem d1_16 : decode jdk_33_method_22_code 16 = .ok (.iload_n 0, 1) := by decide +kernel
theorem d1_17 : decode jdk_33_method_22_code 17 = .ok (.sipush 128, 3) := by decide +kernel
theorem d1_20 : decode jdk_33_method_22_code 20 = .ok (.iadd, 1) := by decide +kernel
theorem d1_21 : decode jdk_33_method_22_code 21 = .ok (.aaload, 1) := by decide +kernel
theorem d1_22 : decode jdk_33_method_22_code 22 = .ok (.areturn, 1) := by decide +kernel
theorem d1_23 : decode jdk_33_method_22_code 23 = .ok (.new 1, 3) := by decide +kernel
theorem d1_26 : decode jdk_33_method_22_code 26 = .ok (.dup, 1) := by decide +kernel
theorem d1_27 : decode jdk_33_method_22_code 27 = .ok (.iload_n 0, 1) := by decide +kernel
theorem d1_28 : decode jdk_33_method_22_code 28 = .ok (.invokespecial 199, 3) := by decide +kernel
theorem d1_31 : decode jdk_33_method_22_code 31 = .ok (.areturn, 1) := by decide +kernel
theorem pn_1 : plainName "java/lang/Integer" = true := by first | (simp [plainName, overriddenIn]; done) | decide +kernel
theorem ef_rm1 (m_ : MethodId) (q : Int32) : entryFrame m_ #[(.int q)] 1 = mkF m_ 0 #[.val (.int q)] [] := by first | (simp [entryFrame, mkF, argsToLocals, Value.category]; done) | rfl
def Q1 (Z : State) (q : Int32) (ca : Addr) (cl : Cell) (h0 : Heap) (n0 : Nat) (v : Option Value) (h : Heap) (L : List Loc) : Prop := ∃ b, v = some (.ref b) ∧ Fr n0 L ∧ Keep h0 h [] ∧ Exa Z h b "java/lang/Integer" ∧ Fld Z h b "java/lang/Integer" "value" "I" (.int q)
set_option maxRecDepth 65536 in
set_option maxHeartbeats 40000000 in
theorem rm1 (l : Launch) (Z : State) (a0 : Array Value) (hw : ∀ d ∈ tables_1, d.before a0 Z = true) (ws : List Jvm.Cond) (q : Int32) (ca : Addr) (cl : Cell) (h0 : Heap) (n0 : Nat) (Z0 : n0 ≤ h0.size) (O : Old Z n0 h0) (Sh : Sta Z Z.heap "java/lang/Integer$IntegerCache" "high" "I" (.int (127 : Int32))) (Sc : Sta Z Z.heap "java/lang/Integer$IntegerCache" "cache" "[Ljava/lang/Integer;" (.ref ca)) (B : Bxs Z ca cl "java/lang/Integer" "I" (256 : Int32) (fun j => .int (j - 128))) :
    MetFree l (⟨"java/lang/Integer", "valueOf", "(I)Ljava/lang/Integer;"⟩ : MethodName) (head1 (Jvm.Cond.code (⟨"java/lang/Integer", "valueOf", "(I)Ljava/lang/Integer;"⟩ : MethodName) jdk_33_method_22_code 1 (some (.object "java/lang/Integer")) :: ws) ({ frames := 3, cells := 1, slots := 1, locals := 38 } : Room)) (fun a_ U_ => a_ = #[(.int q)] ∧ Z.Warmed39 U_.vm ∧ U_.heap = h0) (fun _ _ _ _ _ => True) (fun _ U_ o_ V_ => ∃ v_ L_, o_ = .returned v_ ∧ Q1 Z q ca cl h0 n0 v_ V_.heap L_ ∧ FrameEnd U_ o_ V_ L_ ({ frames := 3, cells := 1, slots := 1, locals := 38 } : Room).cells ({ frames := 3, cells := 1, slots := 1, locals := 38 } : Room).slots) := by
  refine metOf (Q := Q1 Z q ca cl h0 n0) (plainFor_of_name pn_1) ?_
  intro p_ e_ s_ m_ below meth c_ s₁ X0 hx hby hml hret hlk hZ hown hnm e0
  rw [ef_rm1]
  have N0 := Fr.nil n0
  show Go p_ e_ below _ _ s₁ (mkF m_ 0 #[.val (.int q)] [])
  refine Go.iloadN X0 hx (hb hby d1_0) rfl ?_
  refine Go.bipush X0 hx (-128 : Int32) (hb hby d1_1) rfl ?_
  by_cases hc3_1 : q < (-128 : Int32)
  · skip
    refine Go.icmpYes X0 hx (pc' := 23) (hb hby d1_3) (tlt hc3_1).1 (by decide) (by decide) ?_
    show Go p_ e_ below _ _ s₁ (mkF m_ 23 #[.val (.int q)] [])
    refine Go.newO X0 hx hZ hown (hw _ (List.mem_of_getElem? (i := 27) rfl)) (hw _ (List.mem_of_getElem? (i := 28) rfl)) (hw _ (List.mem_of_getElem? (i := 3) rfl)) e0 (hb hby d1_23) (by decide) (by decide) ?_
    intro T2 h2 b2 zq2 X2 e2 E2 A2 D2
    have g_b2 : n0 ≤ b2 := Nat.le_trans Z0 (Nat.le_of_eq zq2.symm)
    have Z2 : n0 ≤ h2.size := Nat.le_trans Z0 E2.1
    have sz_b2 : h0.size ≤ b2 := Nat.le_trans (Keep.refl h0 []).1 (Nat.le_of_eq zq2.symm)
    have K2 : Keep h0 h2 [] := (Keep.refl h0 []).ext E2
    have O_2_ := O.ext E2
    have F_b2_value : Fld Z h2 b2 "java/lang/Integer" "value" "I" (.int (0 : Int32)) := D2 (Or.inr (hw _ (List.mem_of_getElem? (i := 14) rfl))) (ty := .int) (by decide)
    show Go p_ e_ below _ _ T2 (mkF m_ 26 #[.val (.int q)] [(.ref b2)])
    refine Go.dup X2 hx (hb hby d1_26) rfl ?_
    refine Go.iloadN X2 hx (hb hby d1_27) rfl ?_
    refine Go.callI X2 hx hZ (rm5 l Z a0 hw [] b2 q h2 n0 Z2 F_b2_value A2 g_b2) rfl hown (hw _ (List.mem_of_getElem? (i := 29) rfl)) (hw _ (List.mem_of_getElem? (i := 30) rfl)) (hw _ (List.mem_of_getElem? (i := 3) rfl)) (hw _ (List.mem_of_getElem? (i := 32) rfl)) (by decide) e2 (a := b2) (W := 1) (by rw [hml]; rfl) (argsL := [(.int q)]) (S := [(.ref b2)]) (Nat.le_of_ble_eq_true rfl) (by decide) (by decide) (by decide) (by decide) pd_oIcV rfl rfl (hb hby d1_28) ?_
    rintro _ T3 L3 X3 ⟨rfl, N3q, K3, E3, F3_value⟩
    have N3 := Fr.app N0 N3q
    have O_3_ := O_2_.keep K3 (allS g_b2 all0)
    have Z3 : n0 ≤ T3.heap.size := Nat.le_trans Z2 K3.1
    have KK3 : Keep h0 T3.heap [] := K2.trans K3 (allS (Or.inr sz_b2) all0)
    show Go p_ e_ below _ _ T3 (mkF m_ 31 #[.val (.int q)] [(.ref b2)])
    refine Go.retA X3 hx hret hlk rfl rfl rfl (hb hby d1_31) (by decide) (by decide) ?_
    exact ⟨_, rfl, N3, KK3, E3, F3_value⟩
  · skip
    refine Go.icmpNo X0 hx (hb hby d1_3) (flt hc3_1).1 ?_
    show Go p_ e_ below _ _ s₁ (mkF m_ 6 #[.val (.int q)] [])
    refine Go.iloadN X0 hx (hb hby d1_6) rfl ?_
    refine Go.getS X0 hx hZ hown (host := "") (Or.inl (hw _ (List.mem_of_getElem? (i := 5) rfl))) Via.refl e0 (Sh.ext O.2) (hb hby d1_7) ?_
    intro T4 X4 e4
    show Go p_ e_ below _ _ T4 (mkF m_ 10 #[.val (.int q)] [(.int (127 : Int32)), (.int q)])
    by_cases hc10_5 : (127 : Int32) < q
    · skip
      refine Go.icmpYes X4 hx (pc' := 23) (hb hby d1_10) (tlt hc10_5).2.2.1 (by decide) (by decide) ?_
      show Go p_ e_ below _ _ T4 (mkF m_ 23 #[.val (.int q)] [])
      refine Go.newO X4 hx hZ hown (hw _ (List.mem_of_getElem? (i := 27) rfl)) (hw _ (List.mem_of_getElem? (i := 28) rfl)) (hw _ (List.mem_of_getElem? (i := 3) rfl)) e4 (hb hby d1_23) (by decide) (by decide) ?_
      intro T6 h6 b6 zq6 X6 e6 E6 A6 D6
      have g_b6 : n0 ≤ b6 := Nat.le_trans Z0 (Nat.le_of_eq zq6.symm)
      have Z6 : n0 ≤ h6.size := Nat.le_trans Z0 E6.1
      have sz_b6 : h0.size ≤ b6 := Nat.le_trans (Keep.refl h0 []).1 (Nat.le_of_eq zq6.symm)
      have K6 : Keep h0 h6 [] := (Keep.refl h0 []).ext E6
      have O_6_ := O.ext E6
      have F_b6_value : Fld Z h6 b6 "java/lang/Integer" "value" "I" (.int (0 : Int32)) := D6 (Or.inr (hw _ (List.mem_of_getElem? (i := 14) rfl))) (ty := .int) (by decide)
      show Go p_ e_ below _ _ T6 (mkF m_ 26 #[.val (.int q)] [(.ref b6)])
      refine Go.dup X6 hx (hb hby d1_26) rfl ?_
      refine Go.iloadN X6 hx (hb hby d1_27) rfl ?_
      refine Go.callI X6 hx hZ (rm5 l Z a0 hw [] b6 q h6 n0 Z6 F_b6_value A6 g_b6) rfl hown (hw _ (List.mem_of_getElem? (i := 29) rfl)) (hw _ (List.mem_of_getElem? (i := 30) rfl)) (hw _ (List.mem_of_getElem? (i := 3) rfl)) (hw _ (List.mem_of_getElem? (i := 32) rfl)) (by decide) e6 (a := b6) (W := 1) (by rw [hml]; rfl) (argsL := [(.int q)]) (S := [(.ref b6)]) (Nat.le_of_ble_eq_true rfl) (by decide) (by decide) (by decide) (by decide) pd_oIcV rfl rfl (hb hby d1_28) ?_
      rintro _ T7 L7 X7 ⟨rfl, N7q, K7, E7, F7_value⟩
      have N7 := Fr.app N0 N7q
      have O_7_ := O_6_.keep K7 (allS g_b6 all0)
      have Z7 : n0 ≤ T7.heap.size := Nat.le_trans Z6 K7.1
      have KK7 : Keep h0 T7.heap [] := K6.trans K7 (allS (Or.inr sz_b6) all0)
      show Go p_ e_ below _ _ T7 (mkF m_ 31 #[.val (.int q)] [(.ref b6)])
      refine Go.retA X7 hx hret hlk rfl rfl rfl (hb hby d1_31) (by decide) (by decide) ?_
      exact ⟨_, rfl, N7, KK7, E7, F7_value⟩
    · skip
      refine Go.icmpNo X4 hx (hb hby d1_10) (flt hc10_5).2.2.1 ?_
      show Go p_ e_ below _ _ T4 (mkF m_ 13 #[.val (.int q)] [])
      refine Go.getS X4 hx hZ hown (host := "") (Or.inl (hw _ (List.mem_of_getElem? (i := 7) rfl))) Via.refl e4 (Sc.ext O.2) (hb hby d1_13) ?_
      intro T8 X8 e8
      show Go p_ e_ below _ _ T8 (mkF m_ 16 #[.val (.int q)] [(.ref ca)])
      refine Go.iloadN X8 hx (hb hby d1_16) rfl ?_
      refine Go.sipush X8 hx (128 : Int32) (hb hby d1_17) rfl ?_
      refine Go.iadd X8 hx (hb hby d1_20) ?_
      obtain ⟨bx, u1, u2, u3⟩ := B.2.2.2 (q + (128 : Int32)) (inb_of B.2.1 (own_ix _ hc3_1 hc10_5).1)
      refine Go.aaload X8 hx hZ e8 (B.ext O.2).1 rfl (inb_of B.2.1 (own_ix _ hc3_1 hc10_5).1) u1 (hb hby d1_21) ?_
      refine Go.retA X8 hx hret hlk rfl rfl rfl (hb hby d1_22) (by decide) (by decide) ?_
      rw [e8]
      exact ⟨bx, rfl, N0, Keep.refl h0 [], u2.ext O.2, by have u4 := u3; dsimp only at u4; rw [(own_ix _ hc3_1 hc10_5).2] at u4; exact u4.ext O.2⟩
theorem d2_0 : decode jdk_33_method_27_code 0 = .ok (.aload_n 0, 1) := by decide +kernel
theorem d2_1 : decode jdk_33_method_27_code 1 = .ok (.getfield 205, 3) := by decide +kernel
theorem d2_4 : decode jdk_33_method_27_code 4 = .ok (.ireturn, 1) := by decide +kernel
theorem pn_2 : plainName "java/lang/Integer" = true := by first | (simp [plainName, overriddenIn]; done) | decide +kernel
theorem ef_rm2 (m_ : MethodId) (a : Addr) : entryFrame m_ #[(.ref a)] 1 = mkF m_ 0 #[.val (.ref a)] [] := by first | (simp [entryFrame, mkF, argsToLocals, Value.category]; done) | rfl
def Q2 (Z : State) (a : Addr) (x : Int32) (h0 : Heap) (n0 : Nat) (v : Option Value) (h : Heap) (L : List Loc) : Prop := v = some (.int x) ∧ Fr n0 L ∧ h = h0
set_option maxRecDepth 65536 in
set_option maxHeartbeats 40000000 in
theorem rm2 (l : Launch) (Z : State) (a0 : Array Value) (hw : ∀ d ∈ tables_1, d.before a0 Z = true) (ws : List Jvm.Cond) (a : Addr) (x : Int32) (h0 : Heap) (n0 : Nat) (Z0 : n0 ≤ h0.size) (F_x : Fld Z h0 a "java/lang/Integer" "value" "I" (.int x)) :
    MetFree l (⟨"java/lang/Integer", "intValue", "()I"⟩ : MethodName) (head1 (Jvm.Cond.code (⟨"java/lang/Integer", "intValue", "()I"⟩ : MethodName) jdk_33_method_27_code 1 (some .int) :: ws) ({ frames := 0, cells := 0, slots := 0, locals := 0 } : Room)) (fun a_ U_ => a_ = #[(.ref a)] ∧ Z.Warmed39 U_.vm ∧ U_.heap = h0) (fun _ _ _ _ _ => True) (fun _ U_ o_ V_ => ∃ v_ L_, o_ = .returned v_ ∧ Q2 Z a x h0 n0 v_ V_.heap L_ ∧ FrameEnd U_ o_ V_ L_ ({ frames := 0, cells := 0, slots := 0, locals := 0 } : Room).cells ({ frames := 0, cells := 0, slots := 0, locals := 0 } : Room).slots) := by
  refine metOf (Q := Q2 Z a x h0 n0) (plainFor_of_name pn_2) ?_
  intro p_ e_ s_ m_ below meth c_ s₁ X0 hx hby hml hret hlk hZ hown hnm e0
  rw [ef_rm2]
  have N0 := Fr.nil n0
  show Go p_ e_ below _ _ s₁ (mkF m_ 0 #[.val (.ref a)] [])
  refine Go.aloadN X0 hx (hb hby d2_0) rfl rfl ?_
  refine Go.getF X0 hx hZ hown (host := "") (Or.inl (hw _ (List.mem_of_getElem? (i := 13) rfl))) Via.refl e0 F_x (hb hby d2_1) ?_
  intro T1 X1 e1
  show Go p_ e_ below _ _ T1 (mkF m_ 4 #[.val (.ref a)] [(.int x)])
  refine Go.retI X1 hx hret hlk (hb hby d2_4) (by decide) (by decide) ?_
  exact ⟨rfl, N0, e1⟩
def own_exp (p : Int32) (rD : Addr) (rR : Addr) (rF : Addr) (rG : Addr) : Addr := (if (p / (100 : Int32)) = (2 : Int32) then rD else (if (p / (100 : Int32)) = (4 : Int32) then (if (p % (100 : Int32)) = (10 : Int32) then rG else (if (p % (100 : Int32)) = (8 : Int32) then rR else (if (p % (100 : Int32)) = (9 : Int32) then rR else (if (p % (100 : Int32)) = (25 : Int32) then rR else (if (p % (100 : Int32)) = (29 : Int32) then rR else rF))))) else rR))
theorem d3_0 : decode method_2_code 0 = .ok (.iload_n 0, 1) := by decide +kernel
theorem d3_1 : decode method_2_code 1 = .ok (.bipush 100, 2) := by decide +kernel
theorem d3_3 : decode method_2_code 3 = .ok (.idiv, 1) := by decide +kernel
theorem d3_4 : decode method_2_code 4 = .ok (.istore_n 1, 1) := by decide +kernel
theorem d3_5 : decode method_2_code 5 = .ok (.iload_n 0, 1) := by decide +kernel
theorem d3_6 : decode method_2_code 6 = .ok (.bipush 100, 2) := by decide +kernel
theorem d3_8 : decode method_2_code 8 = .ok (.irem, 1) := by decide +kernel
theorem d3_9 : decode method_2_code 9 = .ok (.istore_n 2, 1) := by decide +kernel
theorem d3_10 : decode method_2_code 10 = .ok (.iload_n 1, 1) := by decide +kernel
theorem d3_11 : decode method_2_code 11 = .ok (.iconst 2, 1) := by decide +kernel
theorem d3_12 : decode method_2_code 12 = .ok (.if_icmp .ne 7, 3) := by decide +kernel
theorem d3_15 : decode method_2_code 15 = .ok (.getstatic 7, 3) := by decide +kernel
theorem d3_18 : decode method_2_code 18 = .ok (.areturn, 1) := by decide +kernel
theorem d3_19 : decode method_2_code 19 = .ok (.iload_n 1, 1) := by decide +kernel
theorem d3_20 : decode method_2_code 20 = .ok (.iconst 4, 1) := by decide +kernel
theorem d3_21 : decode method_2_code 21 = .ok (.if_icmp .ne 45, 3) := by decide +kernel
theorem d3_24 : decode method_2_code 24 = .ok (.iload_n 2, 1) := by decide +kernel
theorem d3_25 : decode method_2_code 25 = .ok (.bipush 10, 2) := by decide +kernel
theorem d3_27 : decode method_2_code 27 = .ok (.if_icmp .ne 7, 3) := by decide +kernel
theorem d3_30 : decode method_2_code 30 = .ok (.getstatic 13, 3) := by decide +kernel
theorem d3_33 : decode method_2_code 33 = .ok (.areturn, 1) := by decide +kernel
theorem d3_34 : decode method_2_code 34 = .ok (.iload_n 2, 1) := by decide +kernel
theorem d3_35 : decode method_2_code 35 = .ok (.bipush 8, 2) := by decide +kernel
theorem d3_37 : decode method_2_code 37 = .ok (.if_icmp .eq 21, 3) := by decide +kernel
theorem d3_40 : decode method_2_code 40 = .ok (.iload_n 2, 1) := by decide +kernel
theorem d3_41 : decode method_2_code 41 = .ok (.bipush 9, 2) := by decide +kernel
theorem d3_43 : decode method_2_code 43 = .ok (.if_icmp .eq 15, 3) := by decide +kernel
theorem d3_46 : decode method_2_code 46 = .ok (.iload_n 2, 1) := by decide +kernel
theorem d3_47 : decode method_2_code 47 = .ok (.bipush 25, 2) := by decide +kernel
theorem d3_49 : decode method_2_code 49 = .ok (.if_icmp .eq 9, 3) := by decide +kernel
theorem d3_52 : decode method_2_code 52 = .ok (.iload_n 2, 1) := by decide +kernel
theorem d3_53 : decode method_2_code 53 = .ok (.bipush 29, 2) := by decide +kernel
theorem d3_55 : decode method_2_code 55 = .ok (.if_icmp .ne 7, 3) := by decide +kernel
theorem d3_58 : decode method_2_code 58 = .ok (.getstatic 16, 3) := by decide +kernel
theorem d3_61 : decode method_2_code 61 = .ok (.areturn, 1) := by decide +kernel
theorem d3_62 : decode method_2_code 62 = .ok (.getstatic 19, 3) := by decide +kernel
theorem d3_65 : decode method_2_code 65 = .ok (.areturn, 1) := by decide +kernel
theorem d3_66 : decode method_2_code 66 = .ok (.getstatic 16, 3) := by decide +kernel
theorem d3_69 : decode method_2_code 69 = .ok (.areturn, 1) := by decide +kernel
theorem pn_3 : plainName "com/example/skicka/skicka/VerdictOfPinLaw" = true := by first | (simp [plainName, overriddenIn]; done) | decide +kernel
theorem ef_rm3 (m_ : MethodId) (p : Int32) : entryFrame m_ #[(.int p)] 3 = mkF m_ 0 #[.val (.int p), .unset, .unset] [] := by first | (simp [entryFrame, mkF, argsToLocals, Value.category]; done) | rfl
def Q3 (Z : State) (p : Int32) (rD : Addr) (rR : Addr) (rF : Addr) (rG : Addr) (h0 : Heap) (n0 : Nat) (v : Option Value) (h : Heap) (L : List Loc) : Prop := v = some (.ref (own_exp p rD rR rF rG)) ∧ Fr n0 L ∧ h = h0
set_option maxRecDepth 65536 in
set_option maxHeartbeats 40000000 in
theorem rm3 (l : Launch) (Z : State) (a0 : Array Value) (hw : ∀ d ∈ tables_1, d.before a0 Z = true) (ws : List Jvm.Cond) (p : Int32) (rD : Addr) (rR : Addr) (rF : Addr) (rG : Addr) (h0 : Heap) (n0 : Nat) (Z0 : n0 ≤ h0.size) (O : Old Z n0 h0) (S_rD : Sta Z Z.heap "com/example/skicka/skicka/Verdict" "DELIVERED" "Lcom/example/skicka/skicka/Verdict;" (.ref rD)) (S_rR : Sta Z Z.heap "com/example/skicka/skicka/Verdict" "RETRY" "Lcom/example/skicka/skicka/Verdict;" (.ref rR)) (S_rF : Sta Z Z.heap "com/example/skicka/skicka/Verdict" "REFUSED" "Lcom/example/skicka/skicka/Verdict;" (.ref rF)) (S_rG : Sta Z Z.heap "com/example/skicka/skicka/Verdict" "GONE" "Lcom/example/skicka/skicka/Verdict;" (.ref rG)) :
    MetFree l (⟨"com/example/skicka/skicka/VerdictOfPinLaw", "expected", "(I)Lcom/example/skicka/skicka/Verdict;"⟩ : MethodName) (head1 (Jvm.Cond.code (⟨"com/example/skicka/skicka/VerdictOfPinLaw", "expected", "(I)Lcom/example/skicka/skicka/Verdict;"⟩ : MethodName) method_2_code 3 (some (.object "com/example/skicka/skicka/Verdict")) :: ws) ({ frames := 0, cells := 0, slots := 0, locals := 0 } : Room)) (fun a_ U_ => a_ = #[(.int p)] ∧ Z.Warmed39 U_.vm ∧ U_.heap = h0) (fun _ _ _ _ _ => True) (fun _ U_ o_ V_ => ∃ v_ L_, o_ = .returned v_ ∧ Q3 Z p rD rR rF rG h0 n0 v_ V_.heap L_ ∧ FrameEnd U_ o_ V_ L_ ({ frames := 0, cells := 0, slots := 0, locals := 0 } : Room).cells ({ frames := 0, cells := 0, slots := 0, locals := 0 } : Room).slots) := by
  refine metOf (Q := Q3 Z p rD rR rF rG h0 n0) (plainFor_of_name pn_3) ?_
  intro p_ e_ s_ m_ below meth c_ s₁ X0 hx hby hml hret hlk hZ hown hnm e0
  rw [ef_rm3]
  have N0 := Fr.nil n0
  show Go p_ e_ below _ _ s₁ (mkF m_ 0 #[.val (.int p), .unset, .unset] [])
  refine Go.iloadN X0 hx (hb hby d3_0) rfl ?_
  refine Go.bipush X0 hx (100 : Int32) (hb hby d3_1) rfl ?_
  refine Go.idiv X0 hx (hb hby d3_3) (by decide) ?_
  refine Go.istoreN X0 hx (l' := #[.val (.int p), .val (.int (p / (100 : Int32))), .unset]) (hb hby d3_4) rfl ?_
  refine Go.iloadN X0 hx (hb hby d3_5) rfl ?_
  refine Go.bipush X0 hx (100 : Int32) (hb hby d3_6) rfl ?_
  refine Go.irem X0 hx (hb hby d3_8) (by decide) ?_
  refine Go.istoreN X0 hx (l' := #[.val (.int p), .val (.int (p / (100 : Int32))), .val (.int (p % (100 : Int32)))]) (hb hby d3_9) rfl ?_
  refine Go.iloadN X0 hx (hb hby d3_10) rfl ?_
  refine Go.iconst X0 hx (2 : Int32) (hb hby d3_11) rfl ?_
  by_cases hc12_1 : (p / (100 : Int32)) = (2 : Int32)
  · skip
    refine Go.icmpNo X0 hx (hb hby d3_12) (teq hc12_1).2 ?_
    show Go p_ e_ below _ _ s₁ (mkF m_ 15 #[.val (.int p), .val (.int (p / (100 : Int32))), .val (.int (p % (100 : Int32)))] [])
    refine Go.getS X0 hx hZ hown (host := "") (Or.inl (hw _ (List.mem_of_getElem? (i := 42) rfl))) Via.refl e0 (S_rD.ext O.2) (hb hby d3_15) ?_
    intro T2 X2 e2
    show Go p_ e_ below _ _ T2 (mkF m_ 18 #[.val (.int p), .val (.int (p / (100 : Int32))), .val (.int (p % (100 : Int32)))] [(.ref rD)])
    refine Go.retA X2 hx hret hlk rfl rfl rfl (hb hby d3_18) (by decide) (by decide) ?_
    exact ⟨by unfold own_exp; rw [if_pos hc12_1] <;> rfl, N0, e2⟩
  · skip
    refine Go.icmpYes X0 hx (pc' := 19) (hb hby d3_12) (feq hc12_1).2 (by decide) (by decide) ?_
    show Go p_ e_ below _ _ s₁ (mkF m_ 19 #[.val (.int p), .val (.int (p / (100 : Int32))), .val (.int (p % (100 : Int32)))] [])
    refine Go.iloadN X0 hx (hb hby d3_19) rfl ?_
    refine Go.iconst X0 hx (4 : Int32) (hb hby d3_20) rfl ?_
    by_cases hc21_3 : (p / (100 : Int32)) = (4 : Int32)
    · skip
      refine Go.icmpNo X0 hx (hb hby d3_21) (teq hc21_3).2 ?_
      show Go p_ e_ below _ _ s₁ (mkF m_ 24 #[.val (.int p), .val (.int (p / (100 : Int32))), .val (.int (p % (100 : Int32)))] [])
      refine Go.iloadN X0 hx (hb hby d3_24) rfl ?_
      refine Go.bipush X0 hx (10 : Int32) (hb hby d3_25) rfl ?_
      by_cases hc27_4 : (p % (100 : Int32)) = (10 : Int32)
      · skip
        refine Go.icmpNo X0 hx (hb hby d3_27) (teq hc27_4).2 ?_
        show Go p_ e_ below _ _ s₁ (mkF m_ 30 #[.val (.int p), .val (.int (p / (100 : Int32))), .val (.int (p % (100 : Int32)))] [])
        refine Go.getS X0 hx hZ hown (host := "") (Or.inl (hw _ (List.mem_of_getElem? (i := 48) rfl))) Via.refl e0 (S_rG.ext O.2) (hb hby d3_30) ?_
        intro T5 X5 e5
        show Go p_ e_ below _ _ T5 (mkF m_ 33 #[.val (.int p), .val (.int (p / (100 : Int32))), .val (.int (p % (100 : Int32)))] [(.ref rG)])
        refine Go.retA X5 hx hret hlk rfl rfl rfl (hb hby d3_33) (by decide) (by decide) ?_
        exact ⟨by unfold own_exp; rw [if_neg hc12_1, if_pos hc21_3, if_pos hc27_4] <;> rfl, N0, e5⟩
      · skip
        refine Go.icmpYes X0 hx (pc' := 34) (hb hby d3_27) (feq hc27_4).2 (by decide) (by decide) ?_
        show Go p_ e_ below _ _ s₁ (mkF m_ 34 #[.val (.int p), .val (.int (p / (100 : Int32))), .val (.int (p % (100 : Int32)))] [])
        refine Go.iloadN X0 hx (hb hby d3_34) rfl ?_
        refine Go.bipush X0 hx (8 : Int32) (hb hby d3_35) rfl ?_
        by_cases hc37_6 : (p % (100 : Int32)) = (8 : Int32)
        · skip
          refine Go.icmpYes X0 hx (pc' := 58) (hb hby d3_37) (teq hc37_6).1 (by decide) (by decide) ?_
          show Go p_ e_ below _ _ s₁ (mkF m_ 58 #[.val (.int p), .val (.int (p / (100 : Int32))), .val (.int (p % (100 : Int32)))] [])
          refine Go.getS X0 hx hZ hown (host := "") (Or.inl (hw _ (List.mem_of_getElem? (i := 19) rfl))) Via.refl e0 (S_rR.ext O.2) (hb hby d3_58) ?_
          intro T7 X7 e7
          show Go p_ e_ below _ _ T7 (mkF m_ 61 #[.val (.int p), .val (.int (p / (100 : Int32))), .val (.int (p % (100 : Int32)))] [(.ref rR)])
          refine Go.retA X7 hx hret hlk rfl rfl rfl (hb hby d3_61) (by decide) (by decide) ?_
          exact ⟨by unfold own_exp; rw [if_neg hc12_1, if_pos hc21_3, if_neg hc27_4, if_pos hc37_6] <;> rfl, N0, e7⟩
        · skip
          refine Go.icmpNo X0 hx (hb hby d3_37) (feq hc37_6).1 ?_
          show Go p_ e_ below _ _ s₁ (mkF m_ 40 #[.val (.int p), .val (.int (p / (100 : Int32))), .val (.int (p % (100 : Int32)))] [])
          refine Go.iloadN X0 hx (hb hby d3_40) rfl ?_
          refine Go.bipush X0 hx (9 : Int32) (hb hby d3_41) rfl ?_
          by_cases hc43_8 : (p % (100 : Int32)) = (9 : Int32)
          · skip
            refine Go.icmpYes X0 hx (pc' := 58) (hb hby d3_43) (teq hc43_8).1 (by decide) (by decide) ?_
            show Go p_ e_ below _ _ s₁ (mkF m_ 58 #[.val (.int p), .val (.int (p / (100 : Int32))), .val (.int (p % (100 : Int32)))] [])
            refine Go.getS X0 hx hZ hown (host := "") (Or.inl (hw _ (List.mem_of_getElem? (i := 19) rfl))) Via.refl e0 (S_rR.ext O.2) (hb hby d3_58) ?_
            intro T9 X9 e9
            show Go p_ e_ below _ _ T9 (mkF m_ 61 #[.val (.int p), .val (.int (p / (100 : Int32))), .val (.int (p % (100 : Int32)))] [(.ref rR)])
            refine Go.retA X9 hx hret hlk rfl rfl rfl (hb hby d3_61) (by decide) (by decide) ?_
            exact ⟨by unfold own_exp; rw [if_neg hc12_1, if_pos hc21_3, if_neg hc27_4, if_neg hc37_6, if_pos hc43_8] <;> rfl, N0, e9⟩
          · skip
            refine Go.icmpNo X0 hx (hb hby d3_43) (feq hc43_8).1 ?_
            show Go p_ e_ below _ _ s₁ (mkF m_ 46 #[.val (.int p), .val (.int (p / (100 : Int32))), .val (.int (p % (100 : Int32)))] [])
            refine Go.iloadN X0 hx (hb hby d3_46) rfl ?_
            refine Go.bipush X0 hx (25 : Int32) (hb hby d3_47) rfl ?_
            by_cases hc49_10 : (p % (100 : Int32)) = (25 : Int32)
            · skip
              refine Go.icmpYes X0 hx (pc' := 58) (hb hby d3_49) (teq hc49_10).1 (by decide) (by decide) ?_
              show Go p_ e_ below _ _ s₁ (mkF m_ 58 #[.val (.int p), .val (.int (p / (100 : Int32))), .val (.int (p % (100 : Int32)))] [])
              refine Go.getS X0 hx hZ hown (host := "") (Or.inl (hw _ (List.mem_of_getElem? (i := 19) rfl))) Via.refl e0 (S_rR.ext O.2) (hb hby d3_58) ?_
              intro T11 X11 e11
              show Go p_ e_ below _ _ T11 (mkF m_ 61 #[.val (.int p), .val (.int (p / (100 : Int32))), .val (.int (p % (100 : Int32)))] [(.ref rR)])
              refine Go.retA X11 hx hret hlk rfl rfl rfl (hb hby d3_61) (by decide) (by decide) ?_
              exact ⟨by unfold own_exp; rw [if_neg hc12_1, if_pos hc21_3, if_neg hc27_4, if_neg hc37_6, if_neg hc43_8, if_pos hc49_10] <;> rfl, N0, e11⟩
            · skip
              refine Go.icmpNo X0 hx (hb hby d3_49) (feq hc49_10).1 ?_
              show Go p_ e_ below _ _ s₁ (mkF m_ 52 #[.val (.int p), .val (.int (p / (100 : Int32))), .val (.int (p % (100 : Int32)))] [])
              refine Go.iloadN X0 hx (hb hby d3_52) rfl ?_
              refine Go.bipush X0 hx (29 : Int32) (hb hby d3_53) rfl ?_
              by_cases hc55_12 : (p % (100 : Int32)) = (29 : Int32)
              · skip
                refine Go.icmpNo X0 hx (hb hby d3_55) (teq hc55_12).2 ?_
                show Go p_ e_ below _ _ s₁ (mkF m_ 58 #[.val (.int p), .val (.int (p / (100 : Int32))), .val (.int (p % (100 : Int32)))] [])
                refine Go.getS X0 hx hZ hown (host := "") (Or.inl (hw _ (List.mem_of_getElem? (i := 19) rfl))) Via.refl e0 (S_rR.ext O.2) (hb hby d3_58) ?_
                intro T13 X13 e13
                show Go p_ e_ below _ _ T13 (mkF m_ 61 #[.val (.int p), .val (.int (p / (100 : Int32))), .val (.int (p % (100 : Int32)))] [(.ref rR)])
                refine Go.retA X13 hx hret hlk rfl rfl rfl (hb hby d3_61) (by decide) (by decide) ?_
                exact ⟨by unfold own_exp; rw [if_neg hc12_1, if_pos hc21_3, if_neg hc27_4, if_neg hc37_6, if_neg hc43_8, if_neg hc49_10, if_pos hc55_12] <;> rfl, N0, e13⟩
              · skip
                refine Go.icmpYes X0 hx (pc' := 62) (hb hby d3_55) (feq hc55_12).2 (by decide) (by decide) ?_
                show Go p_ e_ below _ _ s₁ (mkF m_ 62 #[.val (.int p), .val (.int (p / (100 : Int32))), .val (.int (p % (100 : Int32)))] [])
                refine Go.getS X0 hx hZ hown (host := "") (Or.inl (hw _ (List.mem_of_getElem? (i := 45) rfl))) Via.refl e0 (S_rF.ext O.2) (hb hby d3_62) ?_
                intro T14 X14 e14
                show Go p_ e_ below _ _ T14 (mkF m_ 65 #[.val (.int p), .val (.int (p / (100 : Int32))), .val (.int (p % (100 : Int32)))] [(.ref rF)])
                refine Go.retA X14 hx hret hlk rfl rfl rfl (hb hby d3_65) (by decide) (by decide) ?_
                exact ⟨by unfold own_exp; rw [if_neg hc12_1, if_pos hc21_3, if_neg hc27_4, if_neg hc37_6, if_neg hc43_8, if_neg hc49_10, if_neg hc55_12] <;> rfl, N0, e14⟩
    · skip
      refine Go.icmpYes X0 hx (pc' := 66) (hb hby d3_21) (feq hc21_3).2 (by decide) (by decide) ?_
      show Go p_ e_ below _ _ s₁ (mkF m_ 66 #[.val (.int p), .val (.int (p / (100 : Int32))), .val (.int (p % (100 : Int32)))] [])
      refine Go.getS X0 hx hZ hown (host := "") (Or.inl (hw _ (List.mem_of_getElem? (i := 19) rfl))) Via.refl e0 (S_rR.ext O.2) (hb hby d3_66) ?_
      intro T15 X15 e15
      show Go p_ e_ below _ _ T15 (mkF m_ 69 #[.val (.int p), .val (.int (p / (100 : Int32))), .val (.int (p % (100 : Int32)))] [(.ref rR)])
      refine Go.retA X15 hx hret hlk rfl rfl rfl (hb hby d3_69) (by decide) (by decide) ?_
      exact ⟨by unfold own_exp; rw [if_neg hc12_1, if_neg hc21_3] <;> rfl, N0, e15⟩
theorem pd_ocI : parseMethodDescriptor "()I" = some ⟨[], some .int⟩ := by decide +kernel
def own_of  (rD : Addr) (rR : Addr) (rF : Addr) (rG : Addr) (x : Int32) : Addr := (if x < (200 : Int32) then (if x = (410 : Int32) then rG else (if x = (408 : Int32) then rR else (if x = (409 : Int32) then rR else (if x = (425 : Int32) then rR else (if x = (429 : Int32) then rR else (if x < (400 : Int32) then rR else (if (499 : Int32) < x then rR else rF))))))) else (if (299 : Int32) < x then (if x = (410 : Int32) then rG else (if x = (408 : Int32) then rR else (if x = (409 : Int32) then rR else (if x = (425 : Int32) then rR else (if x = (429 : Int32) then rR else (if x < (400 : Int32) then rR else (if (499 : Int32) < x then rR else rF))))))) else rD))
theorem d4_0 : decode prog_14_method_4_code 0 = .ok (.aload_n 0, 1) := by decide +kernel
theorem d4_1 : decode prog_14_method_4_code 1 = .ok (.ifnonnull 10, 3) := by decide +kernel
theorem d4_11 : decode prog_14_method_4_code 11 = .ok (.aload_n 0, 1) := by decide +kernel
theorem d4_12 : decode prog_14_method_4_code 12 = .ok (.invokevirtual 35, 3) := by decide +kernel
theorem d4_15 : decode prog_14_method_4_code 15 = .ok (.sipush 200, 3) := by decide +kernel
theorem d4_18 : decode prog_14_method_4_code 18 = .ok (.if_icmp .lt 20, 3) := by decide +kernel
theorem d4_21 : decode prog_14_method_4_code 21 = .ok (.aload_n 0, 1) := by decide +kernel
theorem d4_22 : decode prog_14_method_4_code 22 = .ok (.invokevirtual 35, 3) := by decide +kernel
theorem d4_25 : decode prog_14_method_4_code 25 = .ok (.sipush 299, 3) := by decide +kernel
theorem d4_28 : decode prog_14_method_4_code 28 = .ok (.if_icmp .gt 10, 3) := by decide +kernel
theorem d4_31 : decode prog_14_method_4_code 31 = .ok (.getstatic 3, 3) := by decide +kernel
theorem d4_34 : decode prog_14_method_4_code 34 = .ok (.astore_n 1, 1) := by decide +kernel
theorem d4_35 : decode prog_14_method_4_code 35 = .ok (.goto 98, 3) := by decide +kernel
theorem d4_38 : decode prog_14_method_4_code 38 = .ok (.aload_n 0, 1) := by decide +kernel
theorem d4_39 : decode prog_14_method_4_code 39 = .ok (.invokevirtual 35, 3) := by decide +kernel
theorem d4_42 : decode prog_14_method_4_code 42 = .ok (.sipush 410, 3) := by decide +kernel
theorem d4_45 : decode prog_14_method_4_code 45 = .ok (.if_icmp .ne 10, 3) := by decide +kernel
theorem d4_48 : decode prog_14_method_4_code 48 = .ok (.getstatic 7, 3) := by decide +kernel
theorem d4_51 : decode prog_14_method_4_code 51 = .ok (.astore_n 1, 1) := by decide +kernel
theorem d4_52 : decode prog_14_method_4_code 52 = .ok (.goto 81, 3) := by decide +kernel
theorem d4_55 : decode prog_14_method_4_code 55 = .ok (.aload_n 0, 1) := by decide +kernel
theorem d4_56 : decode prog_14_method_4_code 56 = .ok (.invokevirtual 35, 3) := by decide +kernel
theorem d4_59 : decode prog_14_method_4_code 59 = .ok (.sipush 408, 3) := by decide +kernel
theorem d4_62 : decode prog_14_method_4_code 62 = .ok (.if_icmp .eq 33, 3) := by decide +kernel
theorem d4_65 : decode prog_14_method_4_code 65 = .ok (.aload_n 0, 1) := by decide +kernel
theorem d4_66 : decode prog_14_method_4_code 66 = .ok (.invokevirtual 35, 3) := by decide +kernel
theorem d4_69 : decode prog_14_method_4_code 69 = .ok (.sipush 409, 3) := by decide +kernel
theorem d4_72 : decode prog_14_method_4_code 72 = .ok (.if_icmp .eq 23, 3) := by decide +kernel
theorem d4_75 : decode prog_14_method_4_code 75 = .ok (.aload_n 0, 1) := by decide +kernel
theorem d4_76 : decode prog_14_method_4_code 76 = .ok (.invokevirtual 35, 3) := by decide +kernel
theorem d4_79 : decode prog_14_method_4_code 79 = .ok (.sipush 425, 3) := by decide +kernel
theorem d4_82 : decode prog_14_method_4_code 82 = .ok (.if_icmp .eq 13, 3) := by decide +kernel
theorem d4_85 : decode prog_14_method_4_code 85 = .ok (.aload_n 0, 1) := by decide +kernel
theorem d4_86 : decode prog_14_method_4_code 86 = .ok (.invokevirtual 35, 3) := by decide +kernel
theorem d4_89 : decode prog_14_method_4_code 89 = .ok (.sipush 429, 3) := by decide +kernel
theorem d4_92 : decode prog_14_method_4_code 92 = .ok (.if_icmp .ne 10, 3) := by decide +kernel
theorem d4_95 : decode prog_14_method_4_code 95 = .ok (.getstatic 13, 3) := by decide +kernel
theorem d4_98 : decode prog_14_method_4_code 98 = .ok (.astore_n 1, 1) := by decide +kernel
theorem d4_99 : decode prog_14_method_4_code 99 = .ok (.goto 34, 3) := by decide +kernel
theorem d4_102 : decode prog_14_method_4_code 102 = .ok (.aload_n 0, 1) := by decide +kernel
theorem d4_103 : decode prog_14_method_4_code 103 = .ok (.invokevirtual 35, 3) := by decide +kernel
theorem d4_106 : decode prog_14_method_4_code 106 = .ok (.sipush 400, 3) := by decide +kernel
theorem d4_109 : decode prog_14_method_4_code 109 = .ok (.if_icmp .lt 20, 3) := by decide +kernel
theorem d4_112 : decode prog_14_method_4_code 112 = .ok (.aload_n 0, 1) := by decide +kernel
theorem d4_113 : decode prog_14_method_4_code 113 = .ok (.invokevirtual 35, 3) := by decide +kernel
theorem d4_116 : decode prog_14_method_4_code 116 = .ok (.sipush 499, 3) := by decide +kernel
theorem d4_119 : decode prog_14_method_4_code 119 = .ok (.if_icmp .gt 10, 3) := by decide +kernel
theorem d4_122 : decode prog_14_method_4_code 122 = .ok (.getstatic 10, 3) := by decide +kernel
theorem d4_125 : decode prog_14_method_4_code 125 = .ok (.astore_n 1, 1) := by decide +kernel
theorem d4_126 : decode prog_14_method_4_code 126 = .ok (.goto 7, 3) := by decide +kernel
theorem d4_129 : decode prog_14_method_4_code 129 = .ok (.getstatic 13, 3) := by decide +kernel
theorem d4_132 : decode prog_14_method_4_code 132 = .ok (.astore_n 1, 1) := by decide +kernel
theorem d4_133 : decode prog_14_method_4_code 133 = .ok (.aload_n 1, 1) := by decide +kernel
theorem d4_134 : decode prog_14_method_4_code 134 = .ok (.areturn, 1) := by decide +kernel
theorem pn_4 : plainName "com/example/skicka/skicka/Verdict" = true := by first | (simp [plainName, overriddenIn]; done) | decide +kernel
theorem ef_rm4 (m_ : MethodId) (a : Addr) : entryFrame m_ #[(.ref a)] 2 = mkF m_ 0 #[.val (.ref a), .unset] [] := by first | (simp [entryFrame, mkF, argsToLocals, Value.category]; done) | rfl
def Q4 (Z : State) (a : Addr) (rD : Addr) (rR : Addr) (rF : Addr) (rG : Addr) (x : Int32) (h0 : Heap) (n0 : Nat) (v : Option Value) (h : Heap) (L : List Loc) : Prop := v = some (.ref (own_of rD rR rF rG x)) ∧ Fr n0 L ∧ h = h0
set_option maxRecDepth 65536 in
set_option maxHeartbeats 40000000 in
theorem rm4 (l : Launch) (Z : State) (a0 : Array Value) (hw : ∀ d ∈ tables_1, d.before a0 Z = true) (ws : List Jvm.Cond) (a : Addr) (rD : Addr) (rR : Addr) (rF : Addr) (rG : Addr) (x : Int32) (h0 : Heap) (n0 : Nat) (Z0 : n0 ≤ h0.size) (O : Old Z n0 h0) (S_rD : Sta Z Z.heap "com/example/skicka/skicka/Verdict" "DELIVERED" "Lcom/example/skicka/skicka/Verdict;" (.ref rD)) (S_rR : Sta Z Z.heap "com/example/skicka/skicka/Verdict" "RETRY" "Lcom/example/skicka/skicka/Verdict;" (.ref rR)) (S_rF : Sta Z Z.heap "com/example/skicka/skicka/Verdict" "REFUSED" "Lcom/example/skicka/skicka/Verdict;" (.ref rF)) (S_rG : Sta Z Z.heap "com/example/skicka/skicka/Verdict" "GONE" "Lcom/example/skicka/skicka/Verdict;" (.ref rG)) (F_x : Fld Z h0 a "java/lang/Integer" "value" "I" (.int x)) (E_a : Exa Z h0 a "java/lang/Integer") :
    MetFree l (⟨"com/example/skicka/skicka/Verdict", "of", "(Ljava/lang/Integer;)Lcom/example/skicka/skicka/Verdict;"⟩ : MethodName) (head1 (Jvm.Cond.code (⟨"com/example/skicka/skicka/Verdict", "of", "(Ljava/lang/Integer;)Lcom/example/skicka/skicka/Verdict;"⟩ : MethodName) prog_14_method_4_code 2 (some (.object "com/example/skicka/skicka/Verdict")) :: ws) ({ frames := 1, cells := 0, slots := 0, locals := 12 } : Room)) (fun a_ U_ => a_ = #[(.ref a)] ∧ Z.Warmed39 U_.vm ∧ U_.heap = h0) (fun _ _ _ _ _ => True) (fun _ U_ o_ V_ => ∃ v_ L_, o_ = .returned v_ ∧ Q4 Z a rD rR rF rG x h0 n0 v_ V_.heap L_ ∧ FrameEnd U_ o_ V_ L_ ({ frames := 1, cells := 0, slots := 0, locals := 12 } : Room).cells ({ frames := 1, cells := 0, slots := 0, locals := 12 } : Room).slots) := by
  refine metOf (Q := Q4 Z a rD rR rF rG x h0 n0) (plainFor_of_name pn_4) ?_
  intro p_ e_ s_ m_ below meth c_ s₁ X0 hx hby hml hret hlk hZ hown hnm e0
  rw [ef_rm4]
  have N0 := Fr.nil n0
  show Go p_ e_ below _ _ s₁ (mkF m_ 0 #[.val (.ref a), .unset] [])
  refine Go.aloadN X0 hx (hb hby d4_0) rfl rfl ?_
  refine Go.ifnonnullYes X0 hx (pc' := 11) (hb hby d4_1) (by decide) (by decide) ?_
  refine Go.aloadN X0 hx (hb hby d4_11) rfl rfl ?_
  refine Go.callV X0 hx hZ (y0 := (⟨"java/lang/Integer", "intValue", "()I"⟩ : MethodName)) (rm2 l Z a0 hw [] a x h0 n0 Z0 F_x) (by decide) hown (hw _ (List.mem_of_getElem? (i := 25) rfl)) (hw _ (List.mem_of_getElem? (i := 9) rfl)) (notFace_of_selects (args := #[]) (mvT hZ (hw _ (List.mem_of_getElem? (i := 11) rfl)))) (hw _ (List.mem_of_getElem? (i := 11) rfl)) (hw _ (List.mem_of_getElem? (i := 10) rfl)) (hw _ (List.mem_of_getElem? (i := 3) rfl)) (hw _ (List.mem_of_getElem? (i := 12) rfl)) e0 E_a (W := 0) (by rw [hml]; rfl) (argsL := []) (S := []) (Nat.le_of_ble_eq_true rfl) (by decide) (by decide) (by decide) (by decide) pd_ocI rfl rfl (hb hby d4_12) ?_
  rintro _ T1 L1 X1 ⟨rfl, N1q, e1⟩
  have N1 := Fr.app N0 N1q
  show Go p_ e_ below _ _ T1 (mkF m_ 15 #[.val (.ref a), .unset] [(.int x)])
  refine Go.sipush X1 hx (200 : Int32) (hb hby d4_15) rfl ?_
  by_cases hc18_2 : x < (200 : Int32)
  · skip
    refine Go.icmpYes X1 hx (pc' := 38) (hb hby d4_18) (tlt hc18_2).1 (by decide) (by decide) ?_
    show Go p_ e_ below _ _ T1 (mkF m_ 38 #[.val (.ref a), .unset] [])
    refine Go.aloadN X1 hx (hb hby d4_38) rfl rfl ?_
    refine Go.callV X1 hx hZ (y0 := (⟨"java/lang/Integer", "intValue", "()I"⟩ : MethodName)) (rm2 l Z a0 hw [] a x h0 n0 Z0 F_x) (by decide) hown (hw _ (List.mem_of_getElem? (i := 25) rfl)) (hw _ (List.mem_of_getElem? (i := 9) rfl)) (notFace_of_selects (args := #[]) (mvT hZ (hw _ (List.mem_of_getElem? (i := 11) rfl)))) (hw _ (List.mem_of_getElem? (i := 11) rfl)) (hw _ (List.mem_of_getElem? (i := 10) rfl)) (hw _ (List.mem_of_getElem? (i := 3) rfl)) (hw _ (List.mem_of_getElem? (i := 12) rfl)) e1 E_a (W := 0) (by rw [hml]; rfl) (argsL := []) (S := []) (Nat.le_of_ble_eq_true rfl) (by decide) (by decide) (by decide) (by decide) pd_ocI rfl rfl (hb hby d4_39) ?_
    rintro _ T3 L3 X3 ⟨rfl, N3q, e3⟩
    have N3 := Fr.app N1 N3q
    show Go p_ e_ below _ _ T3 (mkF m_ 42 #[.val (.ref a), .unset] [(.int x)])
    refine Go.sipush X3 hx (410 : Int32) (hb hby d4_42) rfl ?_
    by_cases hc45_4 : x = (410 : Int32)
    · skip
      refine Go.icmpNo X3 hx (hb hby d4_45) (teq hc45_4).2 ?_
      show Go p_ e_ below _ _ T3 (mkF m_ 48 #[.val (.ref a), .unset] [])
      refine Go.getS X3 hx hZ hown (host := "") (Or.inl (hw _ (List.mem_of_getElem? (i := 50) rfl))) Via.refl e3 (S_rG.ext O.2) (hb hby d4_48) ?_
      intro T5 X5 e5
      show Go p_ e_ below _ _ T5 (mkF m_ 51 #[.val (.ref a), .unset] [(.ref rG)])
      refine Go.astoreN X5 hx (l' := #[.val (.ref a), .val (.ref rG)]) (hb hby d4_51) rfl rfl ?_
      refine Go.goto X5 hx (pc' := 133) (hb hby d4_52) (by decide) (by decide) ?_
      refine Go.aloadN X5 hx (hb hby d4_133) rfl rfl ?_
      refine Go.retA X5 hx hret hlk rfl rfl rfl (hb hby d4_134) (by decide) (by decide) ?_
      exact ⟨by unfold own_of; rw [if_pos hc18_2, if_pos hc45_4] <;> rfl, N3, e5⟩
    · skip
      refine Go.icmpYes X3 hx (pc' := 55) (hb hby d4_45) (feq hc45_4).2 (by decide) (by decide) ?_
      show Go p_ e_ below _ _ T3 (mkF m_ 55 #[.val (.ref a), .unset] [])
      refine Go.aloadN X3 hx (hb hby d4_55) rfl rfl ?_
      refine Go.callV X3 hx hZ (y0 := (⟨"java/lang/Integer", "intValue", "()I"⟩ : MethodName)) (rm2 l Z a0 hw [] a x h0 n0 Z0 F_x) (by decide) hown (hw _ (List.mem_of_getElem? (i := 25) rfl)) (hw _ (List.mem_of_getElem? (i := 9) rfl)) (notFace_of_selects (args := #[]) (mvT hZ (hw _ (List.mem_of_getElem? (i := 11) rfl)))) (hw _ (List.mem_of_getElem? (i := 11) rfl)) (hw _ (List.mem_of_getElem? (i := 10) rfl)) (hw _ (List.mem_of_getElem? (i := 3) rfl)) (hw _ (List.mem_of_getElem? (i := 12) rfl)) e3 E_a (W := 0) (by rw [hml]; rfl) (argsL := []) (S := []) (Nat.le_of_ble_eq_true rfl) (by decide) (by decide) (by decide) (by decide) pd_ocI rfl rfl (hb hby d4_56) ?_
      rintro _ T6 L6 X6 ⟨rfl, N6q, e6⟩
      have N6 := Fr.app N3 N6q
      show Go p_ e_ below _ _ T6 (mkF m_ 59 #[.val (.ref a), .unset] [(.int x)])
      refine Go.sipush X6 hx (408 : Int32) (hb hby d4_59) rfl ?_
      by_cases hc62_7 : x = (408 : Int32)
      · skip
        refine Go.icmpYes X6 hx (pc' := 95) (hb hby d4_62) (teq hc62_7).1 (by decide) (by decide) ?_
        show Go p_ e_ below _ _ T6 (mkF m_ 95 #[.val (.ref a), .unset] [])
        refine Go.getS X6 hx hZ hown (host := "") (Or.inl (hw _ (List.mem_of_getElem? (i := 26) rfl))) Via.refl e6 (S_rR.ext O.2) (hb hby d4_95) ?_
        intro T8 X8 e8
        show Go p_ e_ below _ _ T8 (mkF m_ 98 #[.val (.ref a), .unset] [(.ref rR)])
        refine Go.astoreN X8 hx (l' := #[.val (.ref a), .val (.ref rR)]) (hb hby d4_98) rfl rfl ?_
        refine Go.goto X8 hx (pc' := 133) (hb hby d4_99) (by decide) (by decide) ?_
        refine Go.aloadN X8 hx (hb hby d4_133) rfl rfl ?_
        refine Go.retA X8 hx hret hlk rfl rfl rfl (hb hby d4_134) (by decide) (by decide) ?_
        exact ⟨by unfold own_of; rw [if_pos hc18_2, if_neg hc45_4, if_pos hc62_7] <;> rfl, N6, e8⟩
      · skip
        refine Go.icmpNo X6 hx (hb hby d4_62) (feq hc62_7).1 ?_
        show Go p_ e_ below _ _ T6 (mkF m_ 65 #[.val (.ref a), .unset] [])
        refine Go.aloadN X6 hx (hb hby d4_65) rfl rfl ?_
        refine Go.callV X6 hx hZ (y0 := (⟨"java/lang/Integer", "intValue", "()I"⟩ : MethodName)) (rm2 l Z a0 hw [] a x h0 n0 Z0 F_x) (by decide) hown (hw _ (List.mem_of_getElem? (i := 25) rfl)) (hw _ (List.mem_of_getElem? (i := 9) rfl)) (notFace_of_selects (args := #[]) (mvT hZ (hw _ (List.mem_of_getElem? (i := 11) rfl)))) (hw _ (List.mem_of_getElem? (i := 11) rfl)) (hw _ (List.mem_of_getElem? (i := 10) rfl)) (hw _ (List.mem_of_getElem? (i := 3) rfl)) (hw _ (List.mem_of_getElem? (i := 12) rfl)) e6 E_a (W := 0) (by rw [hml]; rfl) (argsL := []) (S := []) (Nat.le_of_ble_eq_true rfl) (by decide) (by decide) (by decide) (by decide) pd_ocI rfl rfl (hb hby d4_66) ?_
        rintro _ T9 L9 X9 ⟨rfl, N9q, e9⟩
        have N9 := Fr.app N6 N9q
        show Go p_ e_ below _ _ T9 (mkF m_ 69 #[.val (.ref a), .unset] [(.int x)])
        refine Go.sipush X9 hx (409 : Int32) (hb hby d4_69) rfl ?_
        by_cases hc72_10 : x = (409 : Int32)
        · skip
          refine Go.icmpYes X9 hx (pc' := 95) (hb hby d4_72) (teq hc72_10).1 (by decide) (by decide) ?_
          show Go p_ e_ below _ _ T9 (mkF m_ 95 #[.val (.ref a), .unset] [])
          refine Go.getS X9 hx hZ hown (host := "") (Or.inl (hw _ (List.mem_of_getElem? (i := 26) rfl))) Via.refl e9 (S_rR.ext O.2) (hb hby d4_95) ?_
          intro T11 X11 e11
          show Go p_ e_ below _ _ T11 (mkF m_ 98 #[.val (.ref a), .unset] [(.ref rR)])
          refine Go.astoreN X11 hx (l' := #[.val (.ref a), .val (.ref rR)]) (hb hby d4_98) rfl rfl ?_
          refine Go.goto X11 hx (pc' := 133) (hb hby d4_99) (by decide) (by decide) ?_
          refine Go.aloadN X11 hx (hb hby d4_133) rfl rfl ?_
          refine Go.retA X11 hx hret hlk rfl rfl rfl (hb hby d4_134) (by decide) (by decide) ?_
          exact ⟨by unfold own_of; rw [if_pos hc18_2, if_neg hc45_4, if_neg hc62_7, if_pos hc72_10] <;> rfl, N9, e11⟩
        · skip
          refine Go.icmpNo X9 hx (hb hby d4_72) (feq hc72_10).1 ?_
          show Go p_ e_ below _ _ T9 (mkF m_ 75 #[.val (.ref a), .unset] [])
          refine Go.aloadN X9 hx (hb hby d4_75) rfl rfl ?_
          refine Go.callV X9 hx hZ (y0 := (⟨"java/lang/Integer", "intValue", "()I"⟩ : MethodName)) (rm2 l Z a0 hw [] a x h0 n0 Z0 F_x) (by decide) hown (hw _ (List.mem_of_getElem? (i := 25) rfl)) (hw _ (List.mem_of_getElem? (i := 9) rfl)) (notFace_of_selects (args := #[]) (mvT hZ (hw _ (List.mem_of_getElem? (i := 11) rfl)))) (hw _ (List.mem_of_getElem? (i := 11) rfl)) (hw _ (List.mem_of_getElem? (i := 10) rfl)) (hw _ (List.mem_of_getElem? (i := 3) rfl)) (hw _ (List.mem_of_getElem? (i := 12) rfl)) e9 E_a (W := 0) (by rw [hml]; rfl) (argsL := []) (S := []) (Nat.le_of_ble_eq_true rfl) (by decide) (by decide) (by decide) (by decide) pd_ocI rfl rfl (hb hby d4_76) ?_
          rintro _ T12 L12 X12 ⟨rfl, N12q, e12⟩
          have N12 := Fr.app N9 N12q
          show Go p_ e_ below _ _ T12 (mkF m_ 79 #[.val (.ref a), .unset] [(.int x)])
          refine Go.sipush X12 hx (425 : Int32) (hb hby d4_79) rfl ?_
          by_cases hc82_13 : x = (425 : Int32)
          · skip
            refine Go.icmpYes X12 hx (pc' := 95) (hb hby d4_82) (teq hc82_13).1 (by decide) (by decide) ?_
            show Go p_ e_ below _ _ T12 (mkF m_ 95 #[.val (.ref a), .unset] [])
            refine Go.getS X12 hx hZ hown (host := "") (Or.inl (hw _ (List.mem_of_getElem? (i := 26) rfl))) Via.refl e12 (S_rR.ext O.2) (hb hby d4_95) ?_
            intro T14 X14 e14
            show Go p_ e_ below _ _ T14 (mkF m_ 98 #[.val (.ref a), .unset] [(.ref rR)])
            refine Go.astoreN X14 hx (l' := #[.val (.ref a), .val (.ref rR)]) (hb hby d4_98) rfl rfl ?_
            refine Go.goto X14 hx (pc' := 133) (hb hby d4_99) (by decide) (by decide) ?_
            refine Go.aloadN X14 hx (hb hby d4_133) rfl rfl ?_
            refine Go.retA X14 hx hret hlk rfl rfl rfl (hb hby d4_134) (by decide) (by decide) ?_
            exact ⟨by unfold own_of; rw [if_pos hc18_2, if_neg hc45_4, if_neg hc62_7, if_neg hc72_10, if_pos hc82_13] <;> rfl, N12, e14⟩
          · skip
            refine Go.icmpNo X12 hx (hb hby d4_82) (feq hc82_13).1 ?_
            show Go p_ e_ below _ _ T12 (mkF m_ 85 #[.val (.ref a), .unset] [])
            refine Go.aloadN X12 hx (hb hby d4_85) rfl rfl ?_
            refine Go.callV X12 hx hZ (y0 := (⟨"java/lang/Integer", "intValue", "()I"⟩ : MethodName)) (rm2 l Z a0 hw [] a x h0 n0 Z0 F_x) (by decide) hown (hw _ (List.mem_of_getElem? (i := 25) rfl)) (hw _ (List.mem_of_getElem? (i := 9) rfl)) (notFace_of_selects (args := #[]) (mvT hZ (hw _ (List.mem_of_getElem? (i := 11) rfl)))) (hw _ (List.mem_of_getElem? (i := 11) rfl)) (hw _ (List.mem_of_getElem? (i := 10) rfl)) (hw _ (List.mem_of_getElem? (i := 3) rfl)) (hw _ (List.mem_of_getElem? (i := 12) rfl)) e12 E_a (W := 0) (by rw [hml]; rfl) (argsL := []) (S := []) (Nat.le_of_ble_eq_true rfl) (by decide) (by decide) (by decide) (by decide) pd_ocI rfl rfl (hb hby d4_86) ?_
            rintro _ T15 L15 X15 ⟨rfl, N15q, e15⟩
            have N15 := Fr.app N12 N15q
            show Go p_ e_ below _ _ T15 (mkF m_ 89 #[.val (.ref a), .unset] [(.int x)])
            refine Go.sipush X15 hx (429 : Int32) (hb hby d4_89) rfl ?_
            by_cases hc92_16 : x = (429 : Int32)
            · skip
              refine Go.icmpNo X15 hx (hb hby d4_92) (teq hc92_16).2 ?_
              show Go p_ e_ below _ _ T15 (mkF m_ 95 #[.val (.ref a), .unset] [])
              refine Go.getS X15 hx hZ hown (host := "") (Or.inl (hw _ (List.mem_of_getElem? (i := 26) rfl))) Via.refl e15 (S_rR.ext O.2) (hb hby d4_95) ?_
              intro T17 X17 e17
              show Go p_ e_ below _ _ T17 (mkF m_ 98 #[.val (.ref a), .unset] [(.ref rR)])
              refine Go.astoreN X17 hx (l' := #[.val (.ref a), .val (.ref rR)]) (hb hby d4_98) rfl rfl ?_
              refine Go.goto X17 hx (pc' := 133) (hb hby d4_99) (by decide) (by decide) ?_
              refine Go.aloadN X17 hx (hb hby d4_133) rfl rfl ?_
              refine Go.retA X17 hx hret hlk rfl rfl rfl (hb hby d4_134) (by decide) (by decide) ?_
              exact ⟨by unfold own_of; rw [if_pos hc18_2, if_neg hc45_4, if_neg hc62_7, if_neg hc72_10, if_neg hc82_13, if_pos hc92_16] <;> rfl, N15, e17⟩
            · skip
              refine Go.icmpYes X15 hx (pc' := 102) (hb hby d4_92) (feq hc92_16).2 (by decide) (by decide) ?_
              show Go p_ e_ below _ _ T15 (mkF m_ 102 #[.val (.ref a), .unset] [])
              refine Go.aloadN X15 hx (hb hby d4_102) rfl rfl ?_
              refine Go.callV X15 hx hZ (y0 := (⟨"java/lang/Integer", "intValue", "()I"⟩ : MethodName)) (rm2 l Z a0 hw [] a x h0 n0 Z0 F_x) (by decide) hown (hw _ (List.mem_of_getElem? (i := 25) rfl)) (hw _ (List.mem_of_getElem? (i := 9) rfl)) (notFace_of_selects (args := #[]) (mvT hZ (hw _ (List.mem_of_getElem? (i := 11) rfl)))) (hw _ (List.mem_of_getElem? (i := 11) rfl)) (hw _ (List.mem_of_getElem? (i := 10) rfl)) (hw _ (List.mem_of_getElem? (i := 3) rfl)) (hw _ (List.mem_of_getElem? (i := 12) rfl)) e15 E_a (W := 0) (by rw [hml]; rfl) (argsL := []) (S := []) (Nat.le_of_ble_eq_true rfl) (by decide) (by decide) (by decide) (by decide) pd_ocI rfl rfl (hb hby d4_103) ?_
              rintro _ T18 L18 X18 ⟨rfl, N18q, e18⟩
              have N18 := Fr.app N15 N18q
              show Go p_ e_ below _ _ T18 (mkF m_ 106 #[.val (.ref a), .unset] [(.int x)])
              refine Go.sipush X18 hx (400 : Int32) (hb hby d4_106) rfl ?_
              by_cases hc109_19 : x < (400 : Int32)
              · skip
                refine Go.icmpYes X18 hx (pc' := 129) (hb hby d4_109) (tlt hc109_19).1 (by decide) (by decide) ?_
                show Go p_ e_ below _ _ T18 (mkF m_ 129 #[.val (.ref a), .unset] [])
                refine Go.getS X18 hx hZ hown (host := "") (Or.inl (hw _ (List.mem_of_getElem? (i := 26) rfl))) Via.refl e18 (S_rR.ext O.2) (hb hby d4_129) ?_
                intro T20 X20 e20
                show Go p_ e_ below _ _ T20 (mkF m_ 132 #[.val (.ref a), .unset] [(.ref rR)])
                refine Go.astoreN X20 hx (l' := #[.val (.ref a), .val (.ref rR)]) (hb hby d4_132) rfl rfl ?_
                refine Go.aloadN X20 hx (hb hby d4_133) rfl rfl ?_
                refine Go.retA X20 hx hret hlk rfl rfl rfl (hb hby d4_134) (by decide) (by decide) ?_
                exact ⟨by unfold own_of; rw [if_pos hc18_2, if_neg hc45_4, if_neg hc62_7, if_neg hc72_10, if_neg hc82_13, if_neg hc92_16, if_pos hc109_19] <;> rfl, N18, e20⟩
              · skip
                refine Go.icmpNo X18 hx (hb hby d4_109) (flt hc109_19).1 ?_
                show Go p_ e_ below _ _ T18 (mkF m_ 112 #[.val (.ref a), .unset] [])
                refine Go.aloadN X18 hx (hb hby d4_112) rfl rfl ?_
                refine Go.callV X18 hx hZ (y0 := (⟨"java/lang/Integer", "intValue", "()I"⟩ : MethodName)) (rm2 l Z a0 hw [] a x h0 n0 Z0 F_x) (by decide) hown (hw _ (List.mem_of_getElem? (i := 25) rfl)) (hw _ (List.mem_of_getElem? (i := 9) rfl)) (notFace_of_selects (args := #[]) (mvT hZ (hw _ (List.mem_of_getElem? (i := 11) rfl)))) (hw _ (List.mem_of_getElem? (i := 11) rfl)) (hw _ (List.mem_of_getElem? (i := 10) rfl)) (hw _ (List.mem_of_getElem? (i := 3) rfl)) (hw _ (List.mem_of_getElem? (i := 12) rfl)) e18 E_a (W := 0) (by rw [hml]; rfl) (argsL := []) (S := []) (Nat.le_of_ble_eq_true rfl) (by decide) (by decide) (by decide) (by decide) pd_ocI rfl rfl (hb hby d4_113) ?_
                rintro _ T21 L21 X21 ⟨rfl, N21q, e21⟩
                have N21 := Fr.app N18 N21q
                show Go p_ e_ below _ _ T21 (mkF m_ 116 #[.val (.ref a), .unset] [(.int x)])
                refine Go.sipush X21 hx (499 : Int32) (hb hby d4_116) rfl ?_
                by_cases hc119_22 : (499 : Int32) < x
                · skip
                  refine Go.icmpYes X21 hx (pc' := 129) (hb hby d4_119) (tlt hc119_22).2.2.1 (by decide) (by decide) ?_
                  show Go p_ e_ below _ _ T21 (mkF m_ 129 #[.val (.ref a), .unset] [])
                  refine Go.getS X21 hx hZ hown (host := "") (Or.inl (hw _ (List.mem_of_getElem? (i := 26) rfl))) Via.refl e21 (S_rR.ext O.2) (hb hby d4_129) ?_
                  intro T23 X23 e23
                  show Go p_ e_ below _ _ T23 (mkF m_ 132 #[.val (.ref a), .unset] [(.ref rR)])
                  refine Go.astoreN X23 hx (l' := #[.val (.ref a), .val (.ref rR)]) (hb hby d4_132) rfl rfl ?_
                  refine Go.aloadN X23 hx (hb hby d4_133) rfl rfl ?_
                  refine Go.retA X23 hx hret hlk rfl rfl rfl (hb hby d4_134) (by decide) (by decide) ?_
                  exact ⟨by unfold own_of; rw [if_pos hc18_2, if_neg hc45_4, if_neg hc62_7, if_neg hc72_10, if_neg hc82_13, if_neg hc92_16, if_neg hc109_19, if_pos hc119_22] <;> rfl, N21, e23⟩
                · skip
                  refine Go.icmpNo X21 hx (hb hby d4_119) (flt hc119_22).2.2.1 ?_
                  show Go p_ e_ below _ _ T21 (mkF m_ 122 #[.val (.ref a), .unset] [])
                  refine Go.getS X21 hx hZ hown (host := "") (Or.inl (hw _ (List.mem_of_getElem? (i := 47) rfl))) Via.refl e21 (S_rF.ext O.2) (hb hby d4_122) ?_
                  intro T24 X24 e24
                  show Go p_ e_ below _ _ T24 (mkF m_ 125 #[.val (.ref a), .unset] [(.ref rF)])
                  refine Go.astoreN X24 hx (l' := #[.val (.ref a), .val (.ref rF)]) (hb hby d4_125) rfl rfl ?_
                  refine Go.goto X24 hx (pc' := 133) (hb hby d4_126) (by decide) (by decide) ?_
                  refine Go.aloadN X24 hx (hb hby d4_133) rfl rfl ?_
                  refine Go.retA X24 hx hret hlk rfl rfl rfl (hb hby d4_134) (by decide) (by decide) ?_
                  exact ⟨by unfold own_of; rw [if_pos hc18_2, if_neg hc45_4, if_neg hc62_7, if_neg hc72_10, if_neg hc82_13, if_neg hc92_16, if_neg hc109_19, if_neg hc119_22] <;> rfl, N21, e24⟩
  · skip
    refine Go.icmpNo X1 hx (hb hby d4_18) (flt hc18_2).1 ?_
    show Go p_ e_ below _ _ T1 (mkF m_ 21 #[.val (.ref a), .unset] [])
    refine Go.aloadN X1 hx (hb hby d4_21) rfl rfl ?_
    refine Go.callV X1 hx hZ (y0 := (⟨"java/lang/Integer", "intValue", "()I"⟩ : MethodName)) (rm2 l Z a0 hw [] a x h0 n0 Z0 F_x) (by decide) hown (hw _ (List.mem_of_getElem? (i := 25) rfl)) (hw _ (List.mem_of_getElem? (i := 9) rfl)) (notFace_of_selects (args := #[]) (mvT hZ (hw _ (List.mem_of_getElem? (i := 11) rfl)))) (hw _ (List.mem_of_getElem? (i := 11) rfl)) (hw _ (List.mem_of_getElem? (i := 10) rfl)) (hw _ (List.mem_of_getElem? (i := 3) rfl)) (hw _ (List.mem_of_getElem? (i := 12) rfl)) e1 E_a (W := 0) (by rw [hml]; rfl) (argsL := []) (S := []) (Nat.le_of_ble_eq_true rfl) (by decide) (by decide) (by decide) (by decide) pd_ocI rfl rfl (hb hby d4_22) ?_
    rintro _ T25 L25 X25 ⟨rfl, N25q, e25⟩
    have N25 := Fr.app N1 N25q
    show Go p_ e_ below _ _ T25 (mkF m_ 25 #[.val (.ref a), .unset] [(.int x)])
    refine Go.sipush X25 hx (299 : Int32) (hb hby d4_25) rfl ?_
    by_cases hc28_26 : (299 : Int32) < x
    · skip
      refine Go.icmpYes X25 hx (pc' := 38) (hb hby d4_28) (tlt hc28_26).2.2.1 (by decide) (by decide) ?_
      show Go p_ e_ below _ _ T25 (mkF m_ 38 #[.val (.ref a), .unset] [])
      refine Go.aloadN X25 hx (hb hby d4_38) rfl rfl ?_
      refine Go.callV X25 hx hZ (y0 := (⟨"java/lang/Integer", "intValue", "()I"⟩ : MethodName)) (rm2 l Z a0 hw [] a x h0 n0 Z0 F_x) (by decide) hown (hw _ (List.mem_of_getElem? (i := 25) rfl)) (hw _ (List.mem_of_getElem? (i := 9) rfl)) (notFace_of_selects (args := #[]) (mvT hZ (hw _ (List.mem_of_getElem? (i := 11) rfl)))) (hw _ (List.mem_of_getElem? (i := 11) rfl)) (hw _ (List.mem_of_getElem? (i := 10) rfl)) (hw _ (List.mem_of_getElem? (i := 3) rfl)) (hw _ (List.mem_of_getElem? (i := 12) rfl)) e25 E_a (W := 0) (by rw [hml]; rfl) (argsL := []) (S := []) (Nat.le_of_ble_eq_true rfl) (by decide) (by decide) (by decide) (by decide) pd_ocI rfl rfl (hb hby d4_39) ?_
      rintro _ T27 L27 X27 ⟨rfl, N27q, e27⟩
      have N27 := Fr.app N25 N27q
      show Go p_ e_ below _ _ T27 (mkF m_ 42 #[.val (.ref a), .unset] [(.int x)])
      refine Go.sipush X27 hx (410 : Int32) (hb hby d4_42) rfl ?_
      by_cases hc45_28 : x = (410 : Int32)
      · skip
        refine Go.icmpNo X27 hx (hb hby d4_45) (teq hc45_28).2 ?_
        show Go p_ e_ below _ _ T27 (mkF m_ 48 #[.val (.ref a), .unset] [])
        refine Go.getS X27 hx hZ hown (host := "") (Or.inl (hw _ (List.mem_of_getElem? (i := 50) rfl))) Via.refl e27 (S_rG.ext O.2) (hb hby d4_48) ?_
        intro T29 X29 e29
        show Go p_ e_ below _ _ T29 (mkF m_ 51 #[.val (.ref a), .unset] [(.ref rG)])
        refine Go.astoreN X29 hx (l' := #[.val (.ref a), .val (.ref rG)]) (hb hby d4_51) rfl rfl ?_
        refine Go.goto X29 hx (pc' := 133) (hb hby d4_52) (by decide) (by decide) ?_
        refine Go.aloadN X29 hx (hb hby d4_133) rfl rfl ?_
        refine Go.retA X29 hx hret hlk rfl rfl rfl (hb hby d4_134) (by decide) (by decide) ?_
        exact ⟨by unfold own_of; rw [if_neg hc18_2, if_pos hc28_26, if_pos hc45_28] <;> rfl, N27, e29⟩
      · skip
        refine Go.icmpYes X27 hx (pc' := 55) (hb hby d4_45) (feq hc45_28).2 (by decide) (by decide) ?_
        show Go p_ e_ below _ _ T27 (mkF m_ 55 #[.val (.ref a), .unset] [])
        refine Go.aloadN X27 hx (hb hby d4_55) rfl rfl ?_
        refine Go.callV X27 hx hZ (y0 := (⟨"java/lang/Integer", "intValue", "()I"⟩ : MethodName)) (rm2 l Z a0 hw [] a x h0 n0 Z0 F_x) (by decide) hown (hw _ (List.mem_of_getElem? (i := 25) rfl)) (hw _ (List.mem_of_getElem? (i := 9) rfl)) (notFace_of_selects (args := #[]) (mvT hZ (hw _ (List.mem_of_getElem? (i := 11) rfl)))) (hw _ (List.mem_of_getElem? (i := 11) rfl)) (hw _ (List.mem_of_getElem? (i := 10) rfl)) (hw _ (List.mem_of_getElem? (i := 3) rfl)) (hw _ (List.mem_of_getElem? (i := 12) rfl)) e27 E_a (W := 0) (by rw [hml]; rfl) (argsL := []) (S := []) (Nat.le_of_ble_eq_true rfl) (by decide) (by decide) (by decide) (by decide) pd_ocI rfl rfl (hb hby d4_56) ?_
        rintro _ T30 L30 X30 ⟨rfl, N30q, e30⟩
        have N30 := Fr.app N27 N30q
        show Go p_ e_ below _ _ T30 (mkF m_ 59 #[.val (.ref a), .unset] [(.int x)])
        refine Go.sipush X30 hx (408 : Int32) (hb hby d4_59) rfl ?_
        by_cases hc62_31 : x = (408 : Int32)
        · skip
          refine Go.icmpYes X30 hx (pc' := 95) (hb hby d4_62) (teq hc62_31).1 (by decide) (by decide) ?_
          show Go p_ e_ below _ _ T30 (mkF m_ 95 #[.val (.ref a), .unset] [])
          refine Go.getS X30 hx hZ hown (host := "") (Or.inl (hw _ (List.mem_of_getElem? (i := 26) rfl))) Via.refl e30 (S_rR.ext O.2) (hb hby d4_95) ?_
          intro T32 X32 e32
          show Go p_ e_ below _ _ T32 (mkF m_ 98 #[.val (.ref a), .unset] [(.ref rR)])
          refine Go.astoreN X32 hx (l' := #[.val (.ref a), .val (.ref rR)]) (hb hby d4_98) rfl rfl ?_
          refine Go.goto X32 hx (pc' := 133) (hb hby d4_99) (by decide) (by decide) ?_
          refine Go.aloadN X32 hx (hb hby d4_133) rfl rfl ?_
          refine Go.retA X32 hx hret hlk rfl rfl rfl (hb hby d4_134) (by decide) (by decide) ?_
          exact ⟨by unfold own_of; rw [if_neg hc18_2, if_pos hc28_26, if_neg hc45_28, if_pos hc62_31] <;> rfl, N30, e32⟩
        · skip
          refine Go.icmpNo X30 hx (hb hby d4_62) (feq hc62_31).1 ?_
          show Go p_ e_ below _ _ T30 (mkF m_ 65 #[.val (.ref a), .unset] [])
          refine Go.aloadN X30 hx (hb hby d4_65) rfl rfl ?_
          refine Go.callV X30 hx hZ (y0 := (⟨"java/lang/Integer", "intValue", "()I"⟩ : MethodName)) (rm2 l Z a0 hw [] a x h0 n0 Z0 F_x) (by decide) hown (hw _ (List.mem_of_getElem? (i := 25) rfl)) (hw _ (List.mem_of_getElem? (i := 9) rfl)) (notFace_of_selects (args := #[]) (mvT hZ (hw _ (List.mem_of_getElem? (i := 11) rfl)))) (hw _ (List.mem_of_getElem? (i := 11) rfl)) (hw _ (List.mem_of_getElem? (i := 10) rfl)) (hw _ (List.mem_of_getElem? (i := 3) rfl)) (hw _ (List.mem_of_getElem? (i := 12) rfl)) e30 E_a (W := 0) (by rw [hml]; rfl) (argsL := []) (S := []) (Nat.le_of_ble_eq_true rfl) (by decide) (by decide) (by decide) (by decide) pd_ocI rfl rfl (hb hby d4_66) ?_
          rintro _ T33 L33 X33 ⟨rfl, N33q, e33⟩
          have N33 := Fr.app N30 N33q
          show Go p_ e_ below _ _ T33 (mkF m_ 69 #[.val (.ref a), .unset] [(.int x)])
          refine Go.sipush X33 hx (409 : Int32) (hb hby d4_69) rfl ?_
          by_cases hc72_34 : x = (409 : Int32)
          · skip
            refine Go.icmpYes X33 hx (pc' := 95) (hb hby d4_72) (teq hc72_34).1 (by decide) (by decide) ?_
            show Go p_ e_ below _ _ T33 (mkF m_ 95 #[.val (.ref a), .unset] [])
            refine Go.getS X33 hx hZ hown (host := "") (Or.inl (hw _ (List.mem_of_getElem? (i := 26) rfl))) Via.refl e33 (S_rR.ext O.2) (hb hby d4_95) ?_
            intro T35 X35 e35
            show Go p_ e_ below _ _ T35 (mkF m_ 98 #[.val (.ref a), .unset] [(.ref rR)])
            refine Go.astoreN X35 hx (l' := #[.val (.ref a), .val (.ref rR)]) (hb hby d4_98) rfl rfl ?_
            refine Go.goto X35 hx (pc' := 133) (hb hby d4_99) (by decide) (by decide) ?_
            refine Go.aloadN X35 hx (hb hby d4_133) rfl rfl ?_
            refine Go.retA X35 hx hret hlk rfl rfl rfl (hb hby d4_134) (by decide) (by decide) ?_
            exact ⟨by unfold own_of; rw [if_neg hc18_2, if_pos hc28_26, if_neg hc45_28, if_neg hc62_31, if_pos hc72_34] <;> rfl, N33, e35⟩
          · skip
            refine Go.icmpNo X33 hx (hb hby d4_72) (feq hc72_34).1 ?_
            show Go p_ e_ below _ _ T33 (mkF m_ 75 #[.val (.ref a), .unset] [])
            refine Go.aloadN X33 hx (hb hby d4_75) rfl rfl ?_
            refine Go.callV X33 hx hZ (y0 := (⟨"java/lang/Integer", "intValue", "()I"⟩ : MethodName)) (rm2 l Z a0 hw [] a x h0 n0 Z0 F_x) (by decide) hown (hw _ (List.mem_of_getElem? (i := 25) rfl)) (hw _ (List.mem_of_getElem? (i := 9) rfl)) (notFace_of_selects (args := #[]) (mvT hZ (hw _ (List.mem_of_getElem? (i := 11) rfl)))) (hw _ (List.mem_of_getElem? (i := 11) rfl)) (hw _ (List.mem_of_getElem? (i := 10) rfl)) (hw _ (List.mem_of_getElem? (i := 3) rfl)) (hw _ (List.mem_of_getElem? (i := 12) rfl)) e33 E_a (W := 0) (by rw [hml]; rfl) (argsL := []) (S := []) (Nat.le_of_ble_eq_true rfl) (by decide) (by decide) (by decide) (by decide) pd_ocI rfl rfl (hb hby d4_76) ?_
            rintro _ T36 L36 X36 ⟨rfl, N36q, e36⟩
            have N36 := Fr.app N33 N36q
            show Go p_ e_ below _ _ T36 (mkF m_ 79 #[.val (.ref a), .unset] [(.int x)])
            refine Go.sipush X36 hx (425 : Int32) (hb hby d4_79) rfl ?_
            by_cases hc82_37 : x = (425 : Int32)
            · skip
              refine Go.icmpYes X36 hx (pc' := 95) (hb hby d4_82) (teq hc82_37).1 (by decide) (by decide) ?_
              show Go p_ e_ below _ _ T36 (mkF m_ 95 #[.val (.ref a), .unset] [])
              refine Go.getS X36 hx hZ hown (host := "") (Or.inl (hw _ (List.mem_of_getElem? (i := 26) rfl))) Via.refl e36 (S_rR.ext O.2) (hb hby d4_95) ?_
              intro T38 X38 e38
              show Go p_ e_ below _ _ T38 (mkF m_ 98 #[.val (.ref a), .unset] [(.ref rR)])
              refine Go.astoreN X38 hx (l' := #[.val (.ref a), .val (.ref rR)]) (hb hby d4_98) rfl rfl ?_
              refine Go.goto X38 hx (pc' := 133) (hb hby d4_99) (by decide) (by decide) ?_
              refine Go.aloadN X38 hx (hb hby d4_133) rfl rfl ?_
              refine Go.retA X38 hx hret hlk rfl rfl rfl (hb hby d4_134) (by decide) (by decide) ?_
              exact ⟨by unfold own_of; rw [if_neg hc18_2, if_pos hc28_26, if_neg hc45_28, if_neg hc62_31, if_neg hc72_34, if_pos hc82_37] <;> rfl, N36, e38⟩
            · skip
              refine Go.icmpNo X36 hx (hb hby d4_82) (feq hc82_37).1 ?_
              show Go p_ e_ below _ _ T36 (mkF m_ 85 #[.val (.ref a), .unset] [])
              refine Go.aloadN X36 hx (hb hby d4_85) rfl rfl ?_
              refine Go.callV X36 hx hZ (y0 := (⟨"java/lang/Integer", "intValue", "()I"⟩ : MethodName)) (rm2 l Z a0 hw [] a x h0 n0 Z0 F_x) (by decide) hown (hw _ (List.mem_of_getElem? (i := 25) rfl)) (hw _ (List.mem_of_getElem? (i := 9) rfl)) (notFace_of_selects (args := #[]) (mvT hZ (hw _ (List.mem_of_getElem? (i := 11) rfl)))) (hw _ (List.mem_of_getElem? (i := 11) rfl)) (hw _ (List.mem_of_getElem? (i := 10) rfl)) (hw _ (List.mem_of_getElem? (i := 3) rfl)) (hw _ (List.mem_of_getElem? (i := 12) rfl)) e36 E_a (W := 0) (by rw [hml]; rfl) (argsL := []) (S := []) (Nat.le_of_ble_eq_true rfl) (by decide) (by decide) (by decide) (by decide) pd_ocI rfl rfl (hb hby d4_86) ?_
              rintro _ T39 L39 X39 ⟨rfl, N39q, e39⟩
              have N39 := Fr.app N36 N39q
              show Go p_ e_ below _ _ T39 (mkF m_ 89 #[.val (.ref a), .unset] [(.int x)])
              refine Go.sipush X39 hx (429 : Int32) (hb hby d4_89) rfl ?_
              by_cases hc92_40 : x = (429 : Int32)
              · skip
                refine Go.icmpNo X39 hx (hb hby d4_92) (teq hc92_40).2 ?_
                show Go p_ e_ below _ _ T39 (mkF m_ 95 #[.val (.ref a), .unset] [])
                refine Go.getS X39 hx hZ hown (host := "") (Or.inl (hw _ (List.mem_of_getElem? (i := 26) rfl))) Via.refl e39 (S_rR.ext O.2) (hb hby d4_95) ?_
                intro T41 X41 e41
                show Go p_ e_ below _ _ T41 (mkF m_ 98 #[.val (.ref a), .unset] [(.ref rR)])
                refine Go.astoreN X41 hx (l' := #[.val (.ref a), .val (.ref rR)]) (hb hby d4_98) rfl rfl ?_
                refine Go.goto X41 hx (pc' := 133) (hb hby d4_99) (by decide) (by decide) ?_
                refine Go.aloadN X41 hx (hb hby d4_133) rfl rfl ?_
                refine Go.retA X41 hx hret hlk rfl rfl rfl (hb hby d4_134) (by decide) (by decide) ?_
                exact ⟨by unfold own_of; rw [if_neg hc18_2, if_pos hc28_26, if_neg hc45_28, if_neg hc62_31, if_neg hc72_34, if_neg hc82_37, if_pos hc92_40] <;> rfl, N39, e41⟩
              · skip
                refine Go.icmpYes X39 hx (pc' := 102) (hb hby d4_92) (feq hc92_40).2 (by decide) (by decide) ?_
                show Go p_ e_ below _ _ T39 (mkF m_ 102 #[.val (.ref a), .unset] [])
                refine Go.aloadN X39 hx (hb hby d4_102) rfl rfl ?_
                refine Go.callV X39 hx hZ (y0 := (⟨"java/lang/Integer", "intValue", "()I"⟩ : MethodName)) (rm2 l Z a0 hw [] a x h0 n0 Z0 F_x) (by decide) hown (hw _ (List.mem_of_getElem? (i := 25) rfl)) (hw _ (List.mem_of_getElem? (i := 9) rfl)) (notFace_of_selects (args := #[]) (mvT hZ (hw _ (List.mem_of_getElem? (i := 11) rfl)))) (hw _ (List.mem_of_getElem? (i := 11) rfl)) (hw _ (List.mem_of_getElem? (i := 10) rfl)) (hw _ (List.mem_of_getElem? (i := 3) rfl)) (hw _ (List.mem_of_getElem? (i := 12) rfl)) e39 E_a (W := 0) (by rw [hml]; rfl) (argsL := []) (S := []) (Nat.le_of_ble_eq_true rfl) (by decide) (by decide) (by decide) (by decide) pd_ocI rfl rfl (hb hby d4_103) ?_
                rintro _ T42 L42 X42 ⟨rfl, N42q, e42⟩
                have N42 := Fr.app N39 N42q
                show Go p_ e_ below _ _ T42 (mkF m_ 106 #[.val (.ref a), .unset] [(.int x)])
                refine Go.sipush X42 hx (400 : Int32) (hb hby d4_106) rfl ?_
                by_cases hc109_43 : x < (400 : Int32)
                · skip
                  refine Go.icmpYes X42 hx (pc' := 129) (hb hby d4_109) (tlt hc109_43).1 (by decide) (by decide) ?_
                  show Go p_ e_ below _ _ T42 (mkF m_ 129 #[.val (.ref a), .unset] [])
                  refine Go.getS X42 hx hZ hown (host := "") (Or.inl (hw _ (List.mem_of_getElem? (i := 26) rfl))) Via.refl e42 (S_rR.ext O.2) (hb hby d4_129) ?_
                  intro T44 X44 e44
                  show Go p_ e_ below _ _ T44 (mkF m_ 132 #[.val (.ref a), .unset] [(.ref rR)])
                  refine Go.astoreN X44 hx (l' := #[.val (.ref a), .val (.ref rR)]) (hb hby d4_132) rfl rfl ?_
                  refine Go.aloadN X44 hx (hb hby d4_133) rfl rfl ?_
                  refine Go.retA X44 hx hret hlk rfl rfl rfl (hb hby d4_134) (by decide) (by decide) ?_
                  exact ⟨by unfold own_of; rw [if_neg hc18_2, if_pos hc28_26, if_neg hc45_28, if_neg hc62_31, if_neg hc72_34, if_neg hc82_37, if_neg hc92_40, if_pos hc109_43] <;> rfl, N42, e44⟩
                · skip
                  refine Go.icmpNo X42 hx (hb hby d4_109) (flt hc109_43).1 ?_
                  show Go p_ e_ below _ _ T42 (mkF m_ 112 #[.val (.ref a), .unset] [])
                  refine Go.aloadN X42 hx (hb hby d4_112) rfl rfl ?_
                  refine Go.callV X42 hx hZ (y0 := (⟨"java/lang/Integer", "intValue", "()I"⟩ : MethodName)) (rm2 l Z a0 hw [] a x h0 n0 Z0 F_x) (by decide) hown (hw _ (List.mem_of_getElem? (i := 25) rfl)) (hw _ (List.mem_of_getElem? (i := 9) rfl)) (notFace_of_selects (args := #[]) (mvT hZ (hw _ (List.mem_of_getElem? (i := 11) rfl)))) (hw _ (List.mem_of_getElem? (i := 11) rfl)) (hw _ (List.mem_of_getElem? (i := 10) rfl)) (hw _ (List.mem_of_getElem? (i := 3) rfl)) (hw _ (List.mem_of_getElem? (i := 12) rfl)) e42 E_a (W := 0) (by rw [hml]; rfl) (argsL := []) (S := []) (Nat.le_of_ble_eq_true rfl) (by decide) (by decide) (by decide) (by decide) pd_ocI rfl rfl (hb hby d4_113) ?_
                  rintro _ T45 L45 X45 ⟨rfl, N45q, e45⟩
                  have N45 := Fr.app N42 N45q
                  show Go p_ e_ below _ _ T45 (mkF m_ 116 #[.val (.ref a), .unset] [(.int x)])
                  refine Go.sipush X45 hx (499 : Int32) (hb hby d4_116) rfl ?_
                  by_cases hc119_46 : (499 : Int32) < x
                  · skip
                    refine Go.icmpYes X45 hx (pc' := 129) (hb hby d4_119) (tlt hc119_46).2.2.1 (by decide) (by decide) ?_
                    show Go p_ e_ below _ _ T45 (mkF m_ 129 #[.val (.ref a), .unset] [])
                    refine Go.getS X45 hx hZ hown (host := "") (Or.inl (hw _ (List.mem_of_getElem? (i := 26) rfl))) Via.refl e45 (S_rR.ext O.2) (hb hby d4_129) ?_
                    intro T47 X47 e47
                    show Go p_ e_ below _ _ T47 (mkF m_ 132 #[.val (.ref a), .unset] [(.ref rR)])
                    refine Go.astoreN X47 hx (l' := #[.val (.ref a), .val (.ref rR)]) (hb hby d4_132) rfl rfl ?_
                    refine Go.aloadN X47 hx (hb hby d4_133) rfl rfl ?_
                    refine Go.retA X47 hx hret hlk rfl rfl rfl (hb hby d4_134) (by decide) (by decide) ?_
                    exact ⟨by unfold own_of; rw [if_neg hc18_2, if_pos hc28_26, if_neg hc45_28, if_neg hc62_31, if_neg hc72_34, if_neg hc82_37, if_neg hc92_40, if_neg hc109_43, if_pos hc119_46] <;> rfl, N45, e47⟩
                  · skip
                    refine Go.icmpNo X45 hx (hb hby d4_119) (flt hc119_46).2.2.1 ?_
                    show Go p_ e_ below _ _ T45 (mkF m_ 122 #[.val (.ref a), .unset] [])
                    refine Go.getS X45 hx hZ hown (host := "") (Or.inl (hw _ (List.mem_of_getElem? (i := 47) rfl))) Via.refl e45 (S_rF.ext O.2) (hb hby d4_122) ?_
                    intro T48 X48 e48
                    show Go p_ e_ below _ _ T48 (mkF m_ 125 #[.val (.ref a), .unset] [(.ref rF)])
                    refine Go.astoreN X48 hx (l' := #[.val (.ref a), .val (.ref rF)]) (hb hby d4_125) rfl rfl ?_
                    refine Go.goto X48 hx (pc' := 133) (hb hby d4_126) (by decide) (by decide) ?_
                    refine Go.aloadN X48 hx (hb hby d4_133) rfl rfl ?_
                    refine Go.retA X48 hx hret hlk rfl rfl rfl (hb hby d4_134) (by decide) (by decide) ?_
                    exact ⟨by unfold own_of; rw [if_neg hc18_2, if_pos hc28_26, if_neg hc45_28, if_neg hc62_31, if_neg hc72_34, if_neg hc82_37, if_neg hc92_40, if_neg hc109_43, if_neg hc119_46] <;> rfl, N45, e48⟩
    · skip
      refine Go.icmpNo X25 hx (hb hby d4_28) (flt hc28_26).2.2.1 ?_
      show Go p_ e_ below _ _ T25 (mkF m_ 31 #[.val (.ref a), .unset] [])
      refine Go.getS X25 hx hZ hown (host := "") (Or.inl (hw _ (List.mem_of_getElem? (i := 44) rfl))) Via.refl e25 (S_rD.ext O.2) (hb hby d4_31) ?_
      intro T49 X49 e49
      show Go p_ e_ below _ _ T49 (mkF m_ 34 #[.val (.ref a), .unset] [(.ref rD)])
      refine Go.astoreN X49 hx (l' := #[.val (.ref a), .val (.ref rD)]) (hb hby d4_34) rfl rfl ?_
      refine Go.goto X49 hx (pc' := 133) (hb hby d4_35) (by decide) (by decide) ?_
      refine Go.aloadN X49 hx (hb hby d4_133) rfl rfl ?_
      refine Go.retA X49 hx hret hlk rfl rfl rfl (hb hby d4_134) (by decide) (by decide) ?_
      exact ⟨by unfold own_of; rw [if_neg hc18_2, if_neg hc28_26] <;> rfl, N25, e49⟩
theorem d4_4 : decode prog_14_method_4_code 4 = .ok (.getstatic 13, 3) := by decide +kernel
theorem d4_7 : decode prog_14_method_4_code 7 = .ok (.astore_n 1, 1) := by decide +kernel
theorem d4_8 : decode prog_14_method_4_code 8 = .ok (.goto 125, 3) := by decide +kernel
theorem ef_rm4n (m_ : MethodId)  : entryFrame m_ #[.null] 2 = mkF m_ 0 #[.val .null, .unset] [] := by first | (simp [entryFrame, mkF, argsToLocals, Value.category]; done) | rfl
def Q4n (Z : State)  (rD : Addr) (rR : Addr) (rF : Addr) (rG : Addr) (h0 : Heap) (n0 : Nat) (v : Option Value) (h : Heap) (L : List Loc) : Prop := v = some (.ref rR) ∧ Fr n0 L ∧ h = h0
set_option maxRecDepth 65536 in
set_option maxHeartbeats 40000000 in
theorem rm4n (l : Launch) (Z : State) (a0 : Array Value) (hw : ∀ d ∈ tables_1, d.before a0 Z = true) (ws : List Jvm.Cond)  (rD : Addr) (rR : Addr) (rF : Addr) (rG : Addr) (h0 : Heap) (n0 : Nat) (Z0 : n0 ≤ h0.size) (O : Old Z n0 h0) (S_rD : Sta Z Z.heap "com/example/skicka/skicka/Verdict" "DELIVERED" "Lcom/example/skicka/skicka/Verdict;" (.ref rD)) (S_rR : Sta Z Z.heap "com/example/skicka/skicka/Verdict" "RETRY" "Lcom/example/skicka/skicka/Verdict;" (.ref rR)) (S_rF : Sta Z Z.heap "com/example/skicka/skicka/Verdict" "REFUSED" "Lcom/example/skicka/skicka/Verdict;" (.ref rF)) (S_rG : Sta Z Z.heap "com/example/skicka/skicka/Verdict" "GONE" "Lcom/example/skicka/skicka/Verdict;" (.ref rG)) :
    MetFree l (⟨"com/example/skicka/skicka/Verdict", "of", "(Ljava/lang/Integer;)Lcom/example/skicka/skicka/Verdict;"⟩ : MethodName) (head1 (Jvm.Cond.code (⟨"com/example/skicka/skicka/Verdict", "of", "(Ljava/lang/Integer;)Lcom/example/skicka/skicka/Verdict;"⟩ : MethodName) prog_14_method_4_code 2 (some (.object "com/example/skicka/skicka/Verdict")) :: ws) ({ frames := 0, cells := 0, slots := 0, locals := 0 } : Room)) (fun a_ U_ => a_ = #[.null] ∧ Z.Warmed39 U_.vm ∧ U_.heap = h0) (fun _ _ _ _ _ => True) (fun _ U_ o_ V_ => ∃ v_ L_, o_ = .returned v_ ∧ Q4n Z rD rR rF rG h0 n0 v_ V_.heap L_ ∧ FrameEnd U_ o_ V_ L_ ({ frames := 0, cells := 0, slots := 0, locals := 0 } : Room).cells ({ frames := 0, cells := 0, slots := 0, locals := 0 } : Room).slots) := by
  refine metOf (Q := Q4n Z rD rR rF rG h0 n0) (plainFor_of_name pn_4) ?_
  intro p_ e_ s_ m_ below meth c_ s₁ X0 hx hby hml hret hlk hZ hown hnm e0
  rw [ef_rm4n]
  have N0 := Fr.nil n0
  show Go p_ e_ below _ _ s₁ (mkF m_ 0 #[.val .null, .unset] [])
  refine Go.aloadN X0 hx (hb hby d4_0) rfl rfl ?_
  refine Go.ifnonnullNo X0 hx (hb hby d4_1) ?_
  refine Go.getS X0 hx hZ hown (host := "") (Or.inl (hw _ (List.mem_of_getElem? (i := 26) rfl))) Via.refl e0 (S_rR.ext O.2) (hb hby d4_4) ?_
  intro T1 X1 e1
  show Go p_ e_ below _ _ T1 (mkF m_ 7 #[.val .null, .unset] [(.ref rR)])
  refine Go.astoreN X1 hx (l' := #[.val .null, .val (.ref rR)]) (hb hby d4_7) rfl rfl ?_
  refine Go.goto X1 hx (pc' := 133) (hb hby d4_8) (by decide) (by decide) ?_
  refine Go.aloadN X1 hx (hb hby d4_133) rfl rfl ?_
  refine Go.retA X1 hx hret hlk rfl rfl rfl (hb hby d4_134) (by decide) (by decide) ?_
  exact ⟨rfl, N0, e1⟩
set_option maxHeartbeats 4000000 in
theorem own_fin (x : Int32) (rD rR rF rG : Addr) : own_of rD rR rF rG x = own_exp x rD rR rF rG := by
  unfold own_of own_exp
  have d1 := c_idiv x 100 100 (by decide) (by decide)
  have d2 := c_irem x 100 100 (by decide)
  have r1 := rng32 x
  generalize x / 100 = h at *
  generalize x % 100 = r at *
  have k2 : (2 : Int32).toInt = 2 := rfl
  have k4 : (4 : Int32).toInt = 4 := rfl
  have k8 : (8 : Int32).toInt = 8 := rfl
  have k9 : (9 : Int32).toInt = 9 := rfl
  have k10 : (10 : Int32).toInt = 10 := rfl
  have k25 : (25 : Int32).toInt = 25 := rfl
  have k29 : (29 : Int32).toInt = 29 := rfl
  have k200 : (200 : Int32).toInt = 200 := rfl
  have k299 : (299 : Int32).toInt = 299 := rfl
  have k400 : (400 : Int32).toInt = 400 := rfl
  have k408 : (408 : Int32).toInt = 408 := rfl
  have k409 : (409 : Int32).toInt = 409 := rfl
  have k410 : (410 : Int32).toInt = 410 := rfl
  have k425 : (425 : Int32).toInt = 425 := rfl
  have k429 : (429 : Int32).toInt = 429 := rfl
  have k499 : (499 : Int32).toInt = 499 := rfl
  simp only [← Int32.toInt_inj, Int32.lt_iff_toInt_lt, k2, k4, k8, k9, k10, k25, k29, k200, k299, k400, k408, k409, k410, k425, k429, k499]
  repeat' split
  all_goals first | rfl | (exfalso; omega)
theorem pd_oLjava_lang_IntegercLcom_example_skicka_skicka_Verdict : parseMethodDescriptor "(Ljava/lang/Integer;)Lcom/example/skicka/skicka/Verdict;" = some ⟨[(.object "java/lang/Integer")], some (.object "com/example/skicka/skicka/Verdict")⟩ := by decide +kernel
theorem pd_oIcLjava_lang_Integer : parseMethodDescriptor "(I)Ljava/lang/Integer;" = some ⟨[.int], some (.object "java/lang/Integer")⟩ := by decide +kernel
theorem pd_oIcLcom_example_skicka_skicka_Verdict : parseMethodDescriptor "(I)Lcom/example/skicka/skicka/Verdict;" = some ⟨[.int], some (.object "com/example/skicka/skicka/Verdict")⟩ := by decide +kernel
theorem pn_0 : plainName "com/example/skicka/skicka/VerdictOfPinLaw" = true := by first | (simp [plainName, overriddenIn]; done) | decide +kernel
theorem ef_rm0 (m_ : MethodId) (p0 : Int32) (p1 : Int32) : entryFrame m_ #[(.int p0), (.int p1)] maxLocals = mkF m_ 0 #[.val (.int p0), .val (.int p1), .unset, .unset, .unset, .unset] [] := by first | (simp [entryFrame, mkF, argsToLocals, Value.category, maxLocals]; done) | rfl
def Q0 (Z : State) (p0 : Int32) (p1 : Int32) (ca : Addr) (cl : Cell) (rD : Addr) (rR : Addr) (rF : Addr) (rG : Addr) (h0 : Heap) (n0 : Nat) (v : Option Value) (h : Heap) (L : List Loc) : Prop := v = some (.int 1) ∧ Fr n0 L
set_option maxRecDepth 65536 in
set_option maxHeartbeats 40000000 in
theorem rm0 (l : Launch) (Z : State) (a0 : Array Value) (hw : ∀ d ∈ tables_1, d.before a0 Z = true) (ws : List Jvm.Cond) (p0 : Int32) (p1 : Int32) (ca : Addr) (cl : Cell) (rD : Addr) (rR : Addr) (rF : Addr) (rG : Addr) (h0 : Heap) (n0 : Nat) (Z0 : n0 ≤ h0.size) (O : Old Z n0 h0) (S_rD : Sta Z Z.heap "com/example/skicka/skicka/Verdict" "DELIVERED" "Lcom/example/skicka/skicka/Verdict;" (.ref rD)) (S_rR : Sta Z Z.heap "com/example/skicka/skicka/Verdict" "RETRY" "Lcom/example/skicka/skicka/Verdict;" (.ref rR)) (S_rF : Sta Z Z.heap "com/example/skicka/skicka/Verdict" "REFUSED" "Lcom/example/skicka/skicka/Verdict;" (.ref rF)) (S_rG : Sta Z Z.heap "com/example/skicka/skicka/Verdict" "GONE" "Lcom/example/skicka/skicka/Verdict;" (.ref rG)) (Sh : Sta Z Z.heap "java/lang/Integer$IntegerCache" "high" "I" (.int (127 : Int32))) (Sc : Sta Z Z.heap "java/lang/Integer$IntegerCache" "cache" "[Ljava/lang/Integer;" (.ref ca)) (B : Bxs Z ca cl "java/lang/Integer" "I" (256 : Int32) (fun j => .int (j - 128))) :
    MetFree l x (head1 (Jvm.Cond.code x code maxLocals ret :: ws) room_1) (fun a_ U_ => a_ = #[(.int p0), (.int p1)] ∧ Z.Warmed39 U_.vm ∧ U_.heap = h0) (fun _ _ _ _ _ => True) (fun _ U_ o_ V_ => ∃ v_ L_, o_ = .returned v_ ∧ Q0 Z p0 p1 ca cl rD rR rF rG h0 n0 v_ V_.heap L_ ∧ FrameEnd U_ o_ V_ L_ room_1.cells room_1.slots) := by
  refine metOf (Q := Q0 Z p0 p1 ca cl rD rR rF rG h0 n0) (plainFor_of_name pn_0) ?_
  intro p_ e_ s_ m_ below meth c_ s₁ X0 hx hby hml hret hlk hZ hown hnm e0
  rw [ef_rm0]
  have N0 := Fr.nil n0
  show Go p_ e_ below _ _ s₁ (mkF m_ 0 #[.val (.int p0), .val (.int p1), .unset, .unset, .unset, .unset] [])
  refine Go.iloadN X0 hx (hb hby at_0) rfl ?_
  refine Go.iconst X0 hx (3 : Int32) (hb hby at_1) rfl ?_
  refine Go.iand X0 hx (hb hby at_2) ?_
  refine Go.istoreN X0 hx (l' := #[.val (.int p0), .val (.int p1), .val (.int (p1 &&& (3 : Int32))), .unset, .unset, .unset]) (hb hby at_3) rfl ?_
  refine Go.iloadN X0 hx (hb hby at_4) rfl ?_
  by_cases hc5_1 : (p1 &&& (3 : Int32)) = (0 : Int32)
  · skip
    refine Go.ifNo X0 hx (hb hby at_5) ((if0 _ _).trans (teq hc5_1).2) ?_
    show Go p_ e_ below _ _ s₁ (mkF m_ 8 #[.val (.int p0), .val (.int p1), .val (.int (p1 &&& (3 : Int32))), .unset, .unset, .unset] [])
    refine Go.aconstNull X0 hx (hb hby at_8) ?_
    refine Go.astoreN X0 hx (l' := #[.val (.int p0), .val (.int p1), .val (.int (p1 &&& (3 : Int32))), .val .null, .unset, .unset]) (hb hby at_9) rfl rfl ?_
    refine Go.goto X0 hx (pc' := 64) (hb hby at_10) (by decide) (by decide) ?_
    refine Go.aloadN X0 hx (hb hby at_64) rfl rfl ?_
    refine Go.ifnonnullNo X0 hx (hb hby at_65) ?_
    refine Go.getS X0 hx hZ hown (host := "") (Or.inl (hw _ (List.mem_of_getElem? (i := 19) rfl))) Via.refl e0 (S_rR.ext O.2) (hb hby at_68) ?_
    intro T2 X2 e2
    show Go p_ e_ below _ _ T2 (mkF m_ 71 #[.val (.int p0), .val (.int p1), .val (.int (p1 &&& (3 : Int32))), .val .null, .unset, .unset] [(.ref rR)])
    refine Go.astore X2 hx (l' := #[.val (.int p0), .val (.int p1), .val (.int (p1 &&& (3 : Int32))), .val .null, .val (.ref rR), .unset]) (hb hby at_71) rfl rfl ?_
    refine Go.goto X2 hx (pc' := 85) (hb hby at_73) (by decide) (by decide) ?_
    refine Go.aloadN X2 hx (hb hby at_85) rfl rfl ?_
    refine Go.callS X2 hx hZ (rm4n l Z a0 hw [] rD rR rF rG h0 n0 Z0 O S_rD S_rR S_rF S_rG) hown (hw _ (List.mem_of_getElem? (i := 22) rfl)) (hw _ (List.mem_of_getElem? (i := 23) rfl)) (hw _ (List.mem_of_getElem? (i := 20) rfl)) (hw _ (List.mem_of_getElem? (i := 24) rfl)) (by decide) e2 (W := 0) (by rw [hml]; rfl) (argsL := [.null]) (S := []) (Nat.le_of_ble_eq_true rfl) (by decide) (by decide) (by decide) (by decide) pd_oLjava_lang_IntegercLcom_example_skicka_skicka_Verdict rfl rfl (hb hby at_86) ?_
    rintro _ T3 L3 X3 ⟨rfl, N3q, e3⟩
    have N3 := Fr.app N0 N3q
    show Go p_ e_ below _ _ T3 (mkF m_ 89 #[.val (.int p0), .val (.int p1), .val (.int (p1 &&& (3 : Int32))), .val .null, .val (.ref rR), .unset] [(.ref rR)])
    refine Go.astore X3 hx (l' := #[.val (.int p0), .val (.int p1), .val (.int (p1 &&& (3 : Int32))), .val .null, .val (.ref rR), .val (.ref rR)]) (hb hby at_89) rfl rfl ?_
    refine Go.aload X3 hx (hb hby at_91) rfl rfl ?_
    refine Go.aload X3 hx (hb hby at_93) rfl rfl ?_
    refine Go.acmpNo X3 hx (hb hby at_95) rfl rfl (XT.aa_ne_f rfl) ?_
    refine Go.iconst X3 hx (1 : Int32) (hb hby at_98) rfl ?_
    refine Go.goto X3 hx (pc' := 103) (hb hby at_99) (by decide) (by decide) ?_
    refine Go.retN X3 hx hret hlk (by simp) (hb hby at_103) (by decide) (by decide) ?_
    exact ⟨rfl, N3⟩
  · skip
    refine Go.ifYes X0 hx (pc' := 13) (hb hby at_5) ((if0 _ _).trans (feq hc5_1).2) (by decide) (by decide) ?_
    show Go p_ e_ below _ _ s₁ (mkF m_ 13 #[.val (.int p0), .val (.int p1), .val (.int (p1 &&& (3 : Int32))), .unset, .unset, .unset] [])
    refine Go.iloadN X0 hx (hb hby at_13) rfl ?_
    refine Go.iconst X0 hx (1 : Int32) (hb hby at_14) rfl ?_
    by_cases hc15_4 : (p1 &&& (3 : Int32)) = (1 : Int32)
    · skip
      refine Go.icmpNo X0 hx (hb hby at_15) (teq hc15_4).2 ?_
      show Go p_ e_ below _ _ s₁ (mkF m_ 18 #[.val (.int p0), .val (.int p1), .val (.int (p1 &&& (3 : Int32))), .unset, .unset, .unset] [])
      refine Go.iloadN X0 hx (hb hby at_18) rfl ?_
      refine Go.callS X0 hx hZ (rm1 l Z a0 hw [] p0 ca cl h0 n0 Z0 O Sh Sc B) hown (hw _ (List.mem_of_getElem? (i := 1) rfl)) (hw _ (List.mem_of_getElem? (i := 2) rfl)) (hw _ (List.mem_of_getElem? (i := 3) rfl)) (hw _ (List.mem_of_getElem? (i := 4) rfl)) (by decide) e0 (W := 0) (by rw [hml]; rfl) (argsL := [(.int p0)]) (S := []) (Nat.le_of_ble_eq_true rfl) (by decide) (by decide) (by decide) (by decide) pd_oIcLjava_lang_Integer rfl rfl (hb hby at_19) ?_
      rintro _ T5 L5 X5 ⟨b5, rfl, N5q, K5, E5, F5⟩
      have N5 := Fr.app N0 N5q
      have O_5_ := O.keep K5 all0
      have Z5 : n0 ≤ T5.heap.size := Nat.le_trans Z0 K5.1
      show Go p_ e_ below _ _ T5 (mkF m_ 22 #[.val (.int p0), .val (.int p1), .val (.int (p1 &&& (3 : Int32))), .unset, .unset, .unset] [(.ref b5)])
      refine Go.astoreN X5 hx (l' := #[.val (.int p0), .val (.int p1), .val (.int (p1 &&& (3 : Int32))), .val (.ref b5), .unset, .unset]) (hb hby at_22) rfl rfl ?_
      refine Go.goto X5 hx (pc' := 64) (hb hby at_23) (by decide) (by decide) ?_
      refine Go.aloadN X5 hx (hb hby at_64) rfl rfl ?_
      refine Go.ifnonnullYes X5 hx (pc' := 76) (hb hby at_65) (by decide) (by decide) ?_
      refine Go.aloadN X5 hx (hb hby at_76) rfl rfl ?_
      refine Go.callV X5 hx hZ (y0 := (⟨"java/lang/Integer", "intValue", "()I"⟩ : MethodName)) (rm2 l Z a0 hw [] b5 p0 T5.heap n0 Z5 F5) (by decide) hown (hw _ (List.mem_of_getElem? (i := 8) rfl)) (hw _ (List.mem_of_getElem? (i := 9) rfl)) (notFace_of_selects (args := #[]) (mvT hZ (hw _ (List.mem_of_getElem? (i := 11) rfl)))) (hw _ (List.mem_of_getElem? (i := 11) rfl)) (hw _ (List.mem_of_getElem? (i := 10) rfl)) (hw _ (List.mem_of_getElem? (i := 3) rfl)) (hw _ (List.mem_of_getElem? (i := 12) rfl)) rfl E5 (W := 0) (by rw [hml]; rfl) (argsL := []) (S := []) (Nat.le_of_ble_eq_true rfl) (by decide) (by decide) (by decide) (by decide) pd_ocI rfl rfl (hb hby at_77) ?_
      rintro _ T6 L6 X6 ⟨rfl, N6q, e6⟩
      have N6 := Fr.app N5 N6q
      show Go p_ e_ below _ _ T6 (mkF m_ 80 #[.val (.int p0), .val (.int p1), .val (.int (p1 &&& (3 : Int32))), .val (.ref b5), .unset, .unset] [(.int p0)])
      refine Go.callS X6 hx hZ (rm3 l Z a0 hw [] p0 rD rR rF rG T5.heap n0 Z5 O_5_ S_rD S_rR S_rF S_rG) hown (hw _ (List.mem_of_getElem? (i := 15) rfl)) (hw _ (List.mem_of_getElem? (i := 16) rfl)) (hw _ (List.mem_of_getElem? (i := 17) rfl)) (hw _ (List.mem_of_getElem? (i := 18) rfl)) (by decide) e6 (W := 0) (by rw [hml]; rfl) (argsL := [(.int p0)]) (S := []) (Nat.le_of_ble_eq_true rfl) (by decide) (by decide) (by decide) (by decide) pd_oIcLcom_example_skicka_skicka_Verdict rfl rfl (hb hby at_80) ?_
      rintro _ T7 L7 X7 ⟨rfl, N7q, e7⟩
      have N7 := Fr.app N6 N7q
      show Go p_ e_ below _ _ T7 (mkF m_ 83 #[.val (.int p0), .val (.int p1), .val (.int (p1 &&& (3 : Int32))), .val (.ref b5), .unset, .unset] [(.ref (own_exp p0 rD rR rF rG))])
      refine Go.astore X7 hx (l' := #[.val (.int p0), .val (.int p1), .val (.int (p1 &&& (3 : Int32))), .val (.ref b5), .val (.ref (own_exp p0 rD rR rF rG)), .unset]) (hb hby at_83) rfl rfl ?_
      refine Go.aloadN X7 hx (hb hby at_85) rfl rfl ?_
      refine Go.callS X7 hx hZ (rm4 l Z a0 hw [] b5 rD rR rF rG p0 T5.heap n0 Z5 O_5_ S_rD S_rR S_rF S_rG F5 E5) hown (hw _ (List.mem_of_getElem? (i := 22) rfl)) (hw _ (List.mem_of_getElem? (i := 23) rfl)) (hw _ (List.mem_of_getElem? (i := 20) rfl)) (hw _ (List.mem_of_getElem? (i := 24) rfl)) (by decide) e7 (W := 0) (by rw [hml]; rfl) (argsL := [(.ref b5)]) (S := []) (Nat.le_of_ble_eq_true rfl) (by decide) (by decide) (by decide) (by decide) pd_oLjava_lang_IntegercLcom_example_skicka_skicka_Verdict rfl rfl (hb hby at_86) ?_
      rintro _ T8 L8 X8 ⟨rfl, N8q, e8⟩
      have N8 := Fr.app N7 N8q
      show Go p_ e_ below _ _ T8 (mkF m_ 89 #[.val (.int p0), .val (.int p1), .val (.int (p1 &&& (3 : Int32))), .val (.ref b5), .val (.ref (own_exp p0 rD rR rF rG)), .unset] [(.ref (own_of  rD rR rF rG p0))])
      refine Go.astore X8 hx (l' := #[.val (.int p0), .val (.int p1), .val (.int (p1 &&& (3 : Int32))), .val (.ref b5), .val (.ref (own_exp p0 rD rR rF rG)), .val (.ref (own_of  rD rR rF rG p0))]) (hb hby at_89) rfl rfl ?_
      refine Go.aload X8 hx (hb hby at_91) rfl rfl ?_
      refine Go.aload X8 hx (hb hby at_93) rfl rfl ?_
      refine Go.acmpNo X8 hx (hb hby at_95) rfl rfl (XT.aa_ne_f (congrArg Value.ref (own_fin _ _ _ _ _))) ?_
      refine Go.iconst X8 hx (1 : Int32) (hb hby at_98) rfl ?_
      refine Go.goto X8 hx (pc' := 103) (hb hby at_99) (by decide) (by decide) ?_
      refine Go.retN X8 hx hret hlk (by simp) (hb hby at_103) (by decide) (by decide) ?_
      exact ⟨rfl, N8⟩
    · skip
      refine Go.icmpYes X0 hx (pc' := 26) (hb hby at_15) (feq hc15_4).2 (by decide) (by decide) ?_
      show Go p_ e_ below _ _ s₁ (mkF m_ 26 #[.val (.int p0), .val (.int p1), .val (.int (p1 &&& (3 : Int32))), .unset, .unset, .unset] [])
      refine Go.iloadN X0 hx (hb hby at_26) rfl ?_
      refine Go.iconst X0 hx (2 : Int32) (hb hby at_27) rfl ?_
      by_cases hc28_9 : (p1 &&& (3 : Int32)) = (2 : Int32)
      · skip
        refine Go.icmpNo X0 hx (hb hby at_28) (teq hc28_9).2 ?_
        show Go p_ e_ below _ _ s₁ (mkF m_ 31 #[.val (.int p0), .val (.int p1), .val (.int (p1 &&& (3 : Int32))), .unset, .unset, .unset] [])
        refine Go.sipush X0 hx (400 : Int32) (hb hby at_31) rfl ?_
        refine Go.iloadN X0 hx (hb hby at_34) rfl ?_
        refine Go.ldcI X0 hx hZ hown (hw _ (List.mem_of_getElem? (i := 0) rfl)) (hb hby at_35) ?_
        refine Go.iand X0 hx (hb hby at_37) ?_
        refine Go.bipush X0 hx (100 : Int32) (hb hby at_38) rfl ?_
        refine Go.irem X0 hx (hb hby at_40) (by decide) ?_
        refine Go.iadd X0 hx (hb hby at_41) ?_
        refine Go.callS X0 hx hZ (rm1 l Z a0 hw [] ((400 : Int32) + ((p0 &&& (2147483647 : Int32)) % (100 : Int32))) ca cl h0 n0 Z0 O Sh Sc B) hown (hw _ (List.mem_of_getElem? (i := 1) rfl)) (hw _ (List.mem_of_getElem? (i := 2) rfl)) (hw _ (List.mem_of_getElem? (i := 3) rfl)) (hw _ (List.mem_of_getElem? (i := 4) rfl)) (by decide) e0 (W := 0) (by rw [hml]; rfl) (argsL := [(.int ((400 : Int32) + ((p0 &&& (2147483647 : Int32)) % (100 : Int32))))]) (S := []) (Nat.le_of_ble_eq_true rfl) (by decide) (by decide) (by decide) (by decide) pd_oIcLjava_lang_Integer rfl rfl (hb hby at_42) ?_
        rintro _ T10 L10 X10 ⟨b10, rfl, N10q, K10, E10, F10⟩
        have N10 := Fr.app N0 N10q
        have O_10_ := O.keep K10 all0
        have Z10 : n0 ≤ T10.heap.size := Nat.le_trans Z0 K10.1
        show Go p_ e_ below _ _ T10 (mkF m_ 45 #[.val (.int p0), .val (.int p1), .val (.int (p1 &&& (3 : Int32))), .unset, .unset, .unset] [(.ref b10)])
        refine Go.astoreN X10 hx (l' := #[.val (.int p0), .val (.int p1), .val (.int (p1 &&& (3 : Int32))), .val (.ref b10), .unset, .unset]) (hb hby at_45) rfl rfl ?_
        refine Go.goto X10 hx (pc' := 64) (hb hby at_46) (by decide) (by decide) ?_
        refine Go.aloadN X10 hx (hb hby at_64) rfl rfl ?_
        refine Go.ifnonnullYes X10 hx (pc' := 76) (hb hby at_65) (by decide) (by decide) ?_
        refine Go.aloadN X10 hx (hb hby at_76) rfl rfl ?_
        refine Go.callV X10 hx hZ (y0 := (⟨"java/lang/Integer", "intValue", "()I"⟩ : MethodName)) (rm2 l Z a0 hw [] b10 ((400 : Int32) + ((p0 &&& (2147483647 : Int32)) % (100 : Int32))) T10.heap n0 Z10 F10) (by decide) hown (hw _ (List.mem_of_getElem? (i := 8) rfl)) (hw _ (List.mem_of_getElem? (i := 9) rfl)) (notFace_of_selects (args := #[]) (mvT hZ (hw _ (List.mem_of_getElem? (i := 11) rfl)))) (hw _ (List.mem_of_getElem? (i := 11) rfl)) (hw _ (List.mem_of_getElem? (i := 10) rfl)) (hw _ (List.mem_of_getElem? (i := 3) rfl)) (hw _ (List.mem_of_getElem? (i := 12) rfl)) rfl E10 (W := 0) (by rw [hml]; rfl) (argsL := []) (S := []) (Nat.le_of_ble_eq_true rfl) (by decide) (by decide) (by decide) (by decide) pd_ocI rfl rfl (hb hby at_77) ?_
        rintro _ T11 L11 X11 ⟨rfl, N11q, e11⟩
        have N11 := Fr.app N10 N11q
        show Go p_ e_ below _ _ T11 (mkF m_ 80 #[.val (.int p0), .val (.int p1), .val (.int (p1 &&& (3 : Int32))), .val (.ref b10), .unset, .unset] [(.int ((400 : Int32) + ((p0 &&& (2147483647 : Int32)) % (100 : Int32))))])
        refine Go.callS X11 hx hZ (rm3 l Z a0 hw [] ((400 : Int32) + ((p0 &&& (2147483647 : Int32)) % (100 : Int32))) rD rR rF rG T10.heap n0 Z10 O_10_ S_rD S_rR S_rF S_rG) hown (hw _ (List.mem_of_getElem? (i := 15) rfl)) (hw _ (List.mem_of_getElem? (i := 16) rfl)) (hw _ (List.mem_of_getElem? (i := 17) rfl)) (hw _ (List.mem_of_getElem? (i := 18) rfl)) (by decide) e11 (W := 0) (by rw [hml]; rfl) (argsL := [(.int ((400 : Int32) + ((p0 &&& (2147483647 : Int32)) % (100 : Int32))))]) (S := []) (Nat.le_of_ble_eq_true rfl) (by decide) (by decide) (by decide) (by decide) pd_oIcLcom_example_skicka_skicka_Verdict rfl rfl (hb hby at_80) ?_
        rintro _ T12 L12 X12 ⟨rfl, N12q, e12⟩
        have N12 := Fr.app N11 N12q
        show Go p_ e_ below _ _ T12 (mkF m_ 83 #[.val (.int p0), .val (.int p1), .val (.int (p1 &&& (3 : Int32))), .val (.ref b10), .unset, .unset] [(.ref (own_exp ((400 : Int32) + ((p0 &&& (2147483647 : Int32)) % (100 : Int32))) rD rR rF rG))])
        refine Go.astore X12 hx (l' := #[.val (.int p0), .val (.int p1), .val (.int (p1 &&& (3 : Int32))), .val (.ref b10), .val (.ref (own_exp ((400 : Int32) + ((p0 &&& (2147483647 : Int32)) % (100 : Int32))) rD rR rF rG)), .unset]) (hb hby at_83) rfl rfl ?_
        refine Go.aloadN X12 hx (hb hby at_85) rfl rfl ?_
        refine Go.callS X12 hx hZ (rm4 l Z a0 hw [] b10 rD rR rF rG ((400 : Int32) + ((p0 &&& (2147483647 : Int32)) % (100 : Int32))) T10.heap n0 Z10 O_10_ S_rD S_rR S_rF S_rG F10 E10) hown (hw _ (List.mem_of_getElem? (i := 22) rfl)) (hw _ (List.mem_of_getElem? (i := 23) rfl)) (hw _ (List.mem_of_getElem? (i := 20) rfl)) (hw _ (List.mem_of_getElem? (i := 24) rfl)) (by decide) e12 (W := 0) (by rw [hml]; rfl) (argsL := [(.ref b10)]) (S := []) (Nat.le_of_ble_eq_true rfl) (by decide) (by decide) (by decide) (by decide) pd_oLjava_lang_IntegercLcom_example_skicka_skicka_Verdict rfl rfl (hb hby at_86) ?_
        rintro _ T13 L13 X13 ⟨rfl, N13q, e13⟩
        have N13 := Fr.app N12 N13q
        show Go p_ e_ below _ _ T13 (mkF m_ 89 #[.val (.int p0), .val (.int p1), .val (.int (p1 &&& (3 : Int32))), .val (.ref b10), .val (.ref (own_exp ((400 : Int32) + ((p0 &&& (2147483647 : Int32)) % (100 : Int32))) rD rR rF rG)), .unset] [(.ref (own_of  rD rR rF rG ((400 : Int32) + ((p0 &&& (2147483647 : Int32)) % (100 : Int32)))))])
        refine Go.astore X13 hx (l' := #[.val (.int p0), .val (.int p1), .val (.int (p1 &&& (3 : Int32))), .val (.ref b10), .val (.ref (own_exp ((400 : Int32) + ((p0 &&& (2147483647 : Int32)) % (100 : Int32))) rD rR rF rG)), .val (.ref (own_of  rD rR rF rG ((400 : Int32) + ((p0 &&& (2147483647 : Int32)) % (100 : Int32)))))]) (hb hby at_89) rfl rfl ?_
        refine Go.aload X13 hx (hb hby at_91) rfl rfl ?_
        refine Go.aload X13 hx (hb hby at_93) rfl rfl ?_
        refine Go.acmpNo X13 hx (hb hby at_95) rfl rfl (XT.aa_ne_f (congrArg Value.ref (own_fin _ _ _ _ _))) ?_
        refine Go.iconst X13 hx (1 : Int32) (hb hby at_98) rfl ?_
        refine Go.goto X13 hx (pc' := 103) (hb hby at_99) (by decide) (by decide) ?_
        refine Go.retN X13 hx hret hlk (by simp) (hb hby at_103) (by decide) (by decide) ?_
        exact ⟨rfl, N13⟩
      · skip
        refine Go.icmpYes X0 hx (pc' := 49) (hb hby at_28) (feq hc28_9).2 (by decide) (by decide) ?_
        show Go p_ e_ below _ _ s₁ (mkF m_ 49 #[.val (.int p0), .val (.int p1), .val (.int (p1 &&& (3 : Int32))), .unset, .unset, .unset] [])
        refine Go.bipush X0 hx (100 : Int32) (hb hby at_49) rfl ?_
        refine Go.iloadN X0 hx (hb hby at_51) rfl ?_
        refine Go.ldcI X0 hx hZ hown (hw _ (List.mem_of_getElem? (i := 0) rfl)) (hb hby at_52) ?_
        refine Go.iand X0 hx (hb hby at_54) ?_
        refine Go.sipush X0 hx (500 : Int32) (hb hby at_55) rfl ?_
        refine Go.irem X0 hx (hb hby at_58) (by decide) ?_
        refine Go.iadd X0 hx (hb hby at_59) ?_
        refine Go.callS X0 hx hZ (rm1 l Z a0 hw [] ((100 : Int32) + ((p0 &&& (2147483647 : Int32)) % (500 : Int32))) ca cl h0 n0 Z0 O Sh Sc B) hown (hw _ (List.mem_of_getElem? (i := 1) rfl)) (hw _ (List.mem_of_getElem? (i := 2) rfl)) (hw _ (List.mem_of_getElem? (i := 3) rfl)) (hw _ (List.mem_of_getElem? (i := 4) rfl)) (by decide) e0 (W := 0) (by rw [hml]; rfl) (argsL := [(.int ((100 : Int32) + ((p0 &&& (2147483647 : Int32)) % (500 : Int32))))]) (S := []) (Nat.le_of_ble_eq_true rfl) (by decide) (by decide) (by decide) (by decide) pd_oIcLjava_lang_Integer rfl rfl (hb hby at_60) ?_
        rintro _ T14 L14 X14 ⟨b14, rfl, N14q, K14, E14, F14⟩
        have N14 := Fr.app N0 N14q
        have O_14_ := O.keep K14 all0
        have Z14 : n0 ≤ T14.heap.size := Nat.le_trans Z0 K14.1
        show Go p_ e_ below _ _ T14 (mkF m_ 63 #[.val (.int p0), .val (.int p1), .val (.int (p1 &&& (3 : Int32))), .unset, .unset, .unset] [(.ref b14)])
        refine Go.astoreN X14 hx (l' := #[.val (.int p0), .val (.int p1), .val (.int (p1 &&& (3 : Int32))), .val (.ref b14), .unset, .unset]) (hb hby at_63) rfl rfl ?_
        refine Go.aloadN X14 hx (hb hby at_64) rfl rfl ?_
        refine Go.ifnonnullYes X14 hx (pc' := 76) (hb hby at_65) (by decide) (by decide) ?_
        refine Go.aloadN X14 hx (hb hby at_76) rfl rfl ?_
        refine Go.callV X14 hx hZ (y0 := (⟨"java/lang/Integer", "intValue", "()I"⟩ : MethodName)) (rm2 l Z a0 hw [] b14 ((100 : Int32) + ((p0 &&& (2147483647 : Int32)) % (500 : Int32))) T14.heap n0 Z14 F14) (by decide) hown (hw _ (List.mem_of_getElem? (i := 8) rfl)) (hw _ (List.mem_of_getElem? (i := 9) rfl)) (notFace_of_selects (args := #[]) (mvT hZ (hw _ (List.mem_of_getElem? (i := 11) rfl)))) (hw _ (List.mem_of_getElem? (i := 11) rfl)) (hw _ (List.mem_of_getElem? (i := 10) rfl)) (hw _ (List.mem_of_getElem? (i := 3) rfl)) (hw _ (List.mem_of_getElem? (i := 12) rfl)) rfl E14 (W := 0) (by rw [hml]; rfl) (argsL := []) (S := []) (Nat.le_of_ble_eq_true rfl) (by decide) (by decide) (by decide) (by decide) pd_ocI rfl rfl (hb hby at_77) ?_
        rintro _ T15 L15 X15 ⟨rfl, N15q, e15⟩
        have N15 := Fr.app N14 N15q
        show Go p_ e_ below _ _ T15 (mkF m_ 80 #[.val (.int p0), .val (.int p1), .val (.int (p1 &&& (3 : Int32))), .val (.ref b14), .unset, .unset] [(.int ((100 : Int32) + ((p0 &&& (2147483647 : Int32)) % (500 : Int32))))])
        refine Go.callS X15 hx hZ (rm3 l Z a0 hw [] ((100 : Int32) + ((p0 &&& (2147483647 : Int32)) % (500 : Int32))) rD rR rF rG T14.heap n0 Z14 O_14_ S_rD S_rR S_rF S_rG) hown (hw _ (List.mem_of_getElem? (i := 15) rfl)) (hw _ (List.mem_of_getElem? (i := 16) rfl)) (hw _ (List.mem_of_getElem? (i := 17) rfl)) (hw _ (List.mem_of_getElem? (i := 18) rfl)) (by decide) e15 (W := 0) (by rw [hml]; rfl) (argsL := [(.int ((100 : Int32) + ((p0 &&& (2147483647 : Int32)) % (500 : Int32))))]) (S := []) (Nat.le_of_ble_eq_true rfl) (by decide) (by decide) (by decide) (by decide) pd_oIcLcom_example_skicka_skicka_Verdict rfl rfl (hb hby at_80) ?_
        rintro _ T16 L16 X16 ⟨rfl, N16q, e16⟩
        have N16 := Fr.app N15 N16q
        show Go p_ e_ below _ _ T16 (mkF m_ 83 #[.val (.int p0), .val (.int p1), .val (.int (p1 &&& (3 : Int32))), .val (.ref b14), .unset, .unset] [(.ref (own_exp ((100 : Int32) + ((p0 &&& (2147483647 : Int32)) % (500 : Int32))) rD rR rF rG))])
        refine Go.astore X16 hx (l' := #[.val (.int p0), .val (.int p1), .val (.int (p1 &&& (3 : Int32))), .val (.ref b14), .val (.ref (own_exp ((100 : Int32) + ((p0 &&& (2147483647 : Int32)) % (500 : Int32))) rD rR rF rG)), .unset]) (hb hby at_83) rfl rfl ?_
        refine Go.aloadN X16 hx (hb hby at_85) rfl rfl ?_
        refine Go.callS X16 hx hZ (rm4 l Z a0 hw [] b14 rD rR rF rG ((100 : Int32) + ((p0 &&& (2147483647 : Int32)) % (500 : Int32))) T14.heap n0 Z14 O_14_ S_rD S_rR S_rF S_rG F14 E14) hown (hw _ (List.mem_of_getElem? (i := 22) rfl)) (hw _ (List.mem_of_getElem? (i := 23) rfl)) (hw _ (List.mem_of_getElem? (i := 20) rfl)) (hw _ (List.mem_of_getElem? (i := 24) rfl)) (by decide) e16 (W := 0) (by rw [hml]; rfl) (argsL := [(.ref b14)]) (S := []) (Nat.le_of_ble_eq_true rfl) (by decide) (by decide) (by decide) (by decide) pd_oLjava_lang_IntegercLcom_example_skicka_skicka_Verdict rfl rfl (hb hby at_86) ?_
        rintro _ T17 L17 X17 ⟨rfl, N17q, e17⟩
        have N17 := Fr.app N16 N17q
        show Go p_ e_ below _ _ T17 (mkF m_ 89 #[.val (.int p0), .val (.int p1), .val (.int (p1 &&& (3 : Int32))), .val (.ref b14), .val (.ref (own_exp ((100 : Int32) + ((p0 &&& (2147483647 : Int32)) % (500 : Int32))) rD rR rF rG)), .unset] [(.ref (own_of  rD rR rF rG ((100 : Int32) + ((p0 &&& (2147483647 : Int32)) % (500 : Int32)))))])
        refine Go.astore X17 hx (l' := #[.val (.int p0), .val (.int p1), .val (.int (p1 &&& (3 : Int32))), .val (.ref b14), .val (.ref (own_exp ((100 : Int32) + ((p0 &&& (2147483647 : Int32)) % (500 : Int32))) rD rR rF rG)), .val (.ref (own_of  rD rR rF rG ((100 : Int32) + ((p0 &&& (2147483647 : Int32)) % (500 : Int32)))))]) (hb hby at_89) rfl rfl ?_
        refine Go.aload X17 hx (hb hby at_91) rfl rfl ?_
        refine Go.aload X17 hx (hb hby at_93) rfl rfl ?_
        refine Go.acmpNo X17 hx (hb hby at_95) rfl rfl (XT.aa_ne_f (congrArg Value.ref (own_fin _ _ _ _ _))) ?_
        refine Go.iconst X17 hx (1 : Int32) (hb hby at_98) rfl ?_
        refine Go.goto X17 hx (pc' := 103) (hb hby at_99) (by decide) (by decide) ?_
        refine Go.retN X17 hx hret hlk (by simp) (hb hby at_103) (by decide) (by decide) ?_
        exact ⟨rfl, N17⟩
theorem own_len {s : State} {args : Array Value} {t : Term} {a : Addr} {cell : Cell} {n : Int32} (et : t.eval args s none [] s = some (.ref a)) (ha : s.arrayAt? a = some cell) (h : (Term.length t).eval args s none [] s = some (.int n)) : cell.slots.size < 2 ^ 31 ∧ cell.slots.size.toInt32 = n := by
  simp only [Term.eval, et, ha, Option.bind_eq_bind, Option.bind_some] at h
  by_cases hq : cell.slots.size < 2 ^ 31
  · rw [if_pos hq] at h
    exact ⟨hq, Value.int.inj (Option.some.inj h)⟩
  · rw [if_neg hq] at h
    cases h
theorem own_sub128 {s : State} {args : Array Value} {j : Int32} (hj : ¬ j < 0) : (Term.sub (.index 0) (.int 128)).eval args s none [j.toNatClampNeg] s = some (.int (j - 128)) := by
  have h1 : (Term.index 0).eval args s none [j.toNatClampNeg] s = some (.int j) := idx_at hj
  simp [Term.eval] at h1 ⊢
  simp [h1]
set_option maxRecDepth 65536 in
set_option maxHeartbeats 40000000 in
theorem comes_1 {Post : Tables → Env → Array Value → State → Outcome → State → Prop} (hpost : ∀ tb e args s v u, (limb_1_1.after args s (.returned v) u = true ∧ limb_1_2.after args s (.returned v) u = true ∧ True) → FrameEnd s (.returned v) u (Jvm.fieldLocs frame_1_writes args s ++ Jvm.arrayLocs frame_1_arrays args s ++ Jvm.staticLocs frame_1_statics s) 16 128 → Post tb e args s (.returned v) u) :
    ArmFor flags0 classFile x code maxLocals ret World_1 tables_1 room_1 Calls_1 rest_1 Pre_1 Post := by
  intro l hfl _ _ p e ha hc hk s m args below hf hA hF happ hP
  obtain ⟨hcalls, hrest, hpre⟩ := hP
  obtain ⟨-, -, -, hnamed, -, -, -, hat⟩ := (Spec.applies_iff hf).mp happ
  obtain ⟨hg, hn⟩ := and_e (Cond.before_iff.mp (show (Jvm.Cond.and given_1 narrow_1).before args s = true from hpre))
  obtain ⟨g1, g2⟩ := and_e hg
  obtain ⟨g3, g4⟩ := and_e g2
  obtain ⟨w0, w1, rfl⟩ : ∃ w0 w1 : Value, args = #[w0, w1] := by
    have hs : args.size = 2 := by simpa [Cond.value, given_1] using g1
    obtain ⟨L⟩ := args
    match L, hs with
    | [w0, w1], _ => exact ⟨w0, w1, rfl⟩
  have hw := fun d (hd : d ∈ tables_1) => atoms_spec (ws := Jvm.Cond.code x code maxLocals ret :: tables_1) hat d (List.mem_cons_of_mem _ hd)
  have hfit : Fit s := fun {y c} hc i hi => by
    obtain ⟨ha, rfl⟩ := Array.getElem?_eq_some_iff.mp hc
    have q := List.all_eq_true.mp ((Array.all_eq_true_iff_forall_mem.mp hF) _ (Array.getElem_mem ha)) i (List.mem_range.mpr hi)
    simpa [Array.getElem?_eq_getElem hi] using q
  obtain ⟨i0, ei0⟩ := is_v g3
  obtain rfl : w0 = (.int i0) := Option.some.inj ei0
  obtain ⟨i1, ei1⟩ := is_v g4
  obtain rfl : w1 = (.int i1) := Option.some.inj ei1
  obtain ⟨hn_RETRY, hn0⟩ := and_e hn
  obtain ⟨hn_DELIVERED, hn1⟩ := and_e hn0
  obtain ⟨hn_REFUSED, hn2⟩ := and_e hn1
  have hn_GONE := hn2
  obtain ⟨rD, e_rD⟩ := exa_v hn_DELIVERED
  have S_rD := Sta.start e_rD (Or.inr ⟨(hw _ (List.mem_of_getElem? (i := 20) rfl)), (hw _ (List.mem_of_getElem? (i := 43) rfl))⟩)
  obtain ⟨rR, e_rR⟩ := exa_v hn_RETRY
  have S_rR := Sta.start e_rR (Or.inr ⟨(hw _ (List.mem_of_getElem? (i := 20) rfl)), (hw _ (List.mem_of_getElem? (i := 21) rfl))⟩)
  obtain ⟨rF, e_rF⟩ := exa_v hn_REFUSED
  have S_rF := Sta.start e_rF (Or.inr ⟨(hw _ (List.mem_of_getElem? (i := 20) rfl)), (hw _ (List.mem_of_getElem? (i := 46) rfl))⟩)
  obtain ⟨rG, e_rG⟩ := exa_v hn_GONE
  have S_rG := Sta.start e_rG (Or.inr ⟨(hw _ (List.mem_of_getElem? (i := 20) rfl)), (hw _ (List.mem_of_getElem? (i := 49) rfl))⟩)
  obtain ⟨hsets, hown0⟩ := atoms_of _ (rest_1_c_eq ▸ (show rest_1_c.before _ s = true from hrest))
  have hs1 := Cond.before_iff.mp (hsets _ (List.mem_of_getElem? (i := 4) rfl))
  obtain ⟨ca, eca⟩ := arr_v hs1
  obtain ⟨cl, Acl⟩ := Arr.start eca hs1
  have Sc := Sta.start eca (Or.inr ⟨(hw _ (List.mem_of_getElem? (i := 6) rfl)), hsets _ (List.mem_of_getElem? (i := 2) rfl)⟩)
  have ehi := eqv_i (Term.int_eval (127)) (Cond.before_iff.mp (hsets _ (List.mem_of_getElem? (i := 3) rfl)))
  have Sh := Sta.start ehi (Or.inl (hsets _ (List.mem_of_getElem? (i := 1) rfl)))
  have eln := eqv_i (Term.int_eval (256)) (Cond.before_iff.mp (hsets _ (List.mem_of_getElem? (i := 6) rfl)))
  obtain ⟨hlt, hln⟩ := own_len eca (Acl.fin (U := s) (Vm.Alike.refl _)) eln
  have B := Bxs.start (val := fun j => .int (j - 128)) (fun _ => eca) Acl hlt hln (by decide) (Cond.before_iff.mp (hsets _ (List.mem_of_getElem? (i := 7) rfl))) (fun X j hj hX => eqv_i (own_sub128 hj) hX)
  obtain ⟨n, o, h1, h2, h3, _, L, rfl, ⟨rfl, N⟩, hq⟩ := rm0 l s _ hw tables_1 i0 i1 ca cl rD rR rF rG s.heap s.heap.size (Nat.le_refl _) (Old.start s) S_rD S_rR S_rF S_rG Sh Sc B p e ha hc hk s m _ below hf ((Spec.applies_iff_loose hf).mp happ).1 ⟨rfl, State.Warmed39.refl s, rfl⟩ trivial
  refine ⟨n, _, h1, h2, h3, hpost _ _ _ _ _ _ ⟨Cond.after_iff.mpr rfl, Cond.after_iff.mpr (eq_i res_at (Term.int_eval (1)) rfl), trivial⟩ ⟨hq.1, hq.2.1, (hq.2.2.sift fun y hy => Or.inr (N y hy)).mono (by decide) (by decide)⟩⟩
theorem main_1_1 : Claimed_1_1 := comes_1 fun _ _ _ _ _ _ h hF => ⟨h.1, hF⟩
theorem main_1_2 : Claimed_1_2 := comes_1 fun _ _ _ _ _ _ h hF => ⟨h.2.1, hF⟩
end Jvm.Pilot.@@N@@
namespace Jvm.Pilot.@@N@@
open Jvm Jvm.ClassFile Sem Op Lib Jvm.Free Jvm.Stand Jvm.Pilot.@@N@@.Jvm.D
/-! MADE BY PROGRAM (witnessworld.py) out of the Statement's table words and the real class files: 17 classes; the members and pool entries that the words name. The judged class is class 1, her method 2. -/
namespace start1
open Jvm.ClassFile
def u (s : String) : CpInfo := .utf8 (stringToUtf16 s)
/-- a pool by its gaps: so many unusable entries, then the entry; so many at the end -/
def gap : Nat → List CpInfo → List CpInfo
  | 0, r => r
  | n + 1, r => .unusable :: gap n r
def poolList (es : List (Nat × CpInfo)) (last : Nat) : List CpInfo := es.foldr (fun e r => gap e.1 (e.2 :: r)) (gap last [])
def pool (es : List (Nat × CpInfo)) (last : Nat) : Array CpInfo := ⟨poolList es last⟩
def fileOf (pool : Array CpInfo) (this : Nat) (attrs : Array Attribute := #[]) (ms : Array MethodInfo := #[]) (fl : Nat := 33) (sup : Nat := 0) (ifs : Array Nat := #[]) (fds : Array FieldInfo := #[]) : ClassFile where
  minorVersion := 0
  majorVersion := 65
  constantPool := pool
  accessFlags := fl
  thisClass := this
  superClass := sup
  interfaces := ifs
  fields := fds
  methods := ms
  attributes := attrs
def plain (name : String) (sup : Option ClassId) : Class where
  name := name
  kind := .ordinary
  loader := none
  accessFlags := 33
  super := sup
  interfaces := #[]
  cf := none
  fields := #[]
  methods := #[]
  instanceTypes := #[]
  staticTypes := #[]
  resolved := #[]
  callSites := []
  init := .initialized
  statics := none
  mirror := none

def pool0 : Array CpInfo := pool [(5, u "<init>"), (0, u "()V"), (1, .class_ 10), (1, u "java/lang/Object")] 113

def k0c0 : Code := { maxStack := 0, maxLocals := 1, code := object_method_1_code, exceptionTable := #[], attributes := #[] }
def k0m0 : Method := { name := "<init>", desc := "()V", sig := { parameters := [], returnType := none }, accessFlags := 1, code := some k0c0 }
/-- java/lang/Object -/
def k0 : Class := { plain "java/lang/Object" none with
  accessFlags := 33
  interfaces := #[]
  cf := some (fileOf pool0 8 #[] #[{ accessFlags := 1, nameIndex := 5, descriptorIndex := 6, attributes := #[] }] 33 0 #[] #[])
  fields := #[]
  methods := #[k0m0]
  instanceTypes := #[]
  staticTypes := #[]
  resolved := Array.replicate 124 none
  statics := none }

def pool1 : Array CpInfo := pool [(2, .class_ 4), (1, u "java/lang/Object"), (0, u "<init>"), (0, u "()V"), (0, .fieldref 8 9), (0, .class_ 10), (0, .nameAndType 11 12), (0, u "com/example/skicka/skicka/Verdict"), (0, u "DELIVERED"), (0, u "Lcom/example/skicka/skicka/Verdict;"), (0, .fieldref 8 14), (0, .nameAndType 15 12), (0, u "GONE"), (0, .fieldref 8 17), (0, .nameAndType 18 12), (0, u "RETRY"), (0, .fieldref 8 20), (0, .nameAndType 21 12), (0, u "REFUSED"), (0, .methodref 23 24), (0, .class_ 25), (0, .nameAndType 26 27), (0, u "java/lang/Integer"), (0, u "valueOf"), (0, u "(I)Ljava/lang/Integer;"), (0, .integer 2147483647), (0, .methodref 23 30), (0, .nameAndType 31 32), (0, u "intValue"), (0, u "()I"), (0, .methodref 34 35), (0, .class_ 36), (0, .nameAndType 37 38), (0, u "com/example/skicka/skicka/VerdictOfPinLaw"), (0, u "expected"), (0, u "(I)Lcom/example/skicka/skicka/Verdict;"), (0, .methodref 8 40), (0, .nameAndType 41 42), (0, u "of"), (0, u "(Ljava/lang/Integer;)Lcom/example/skicka/skicka/Verdict;"), (3, u "law"), (0, u "(II)Z")] 2

def k1m0 : Method := { name := "<init>", desc := "()V", sig := { parameters := [], returnType := none }, accessFlags := 2, code := none }
def k1c1 : Code := { maxStack := 2, maxLocals := 3, code := method_2_code, exceptionTable := #[], attributes := #[] }
def k1m1 : Method := { name := "expected", desc := "(I)Lcom/example/skicka/skicka/Verdict;", sig := { parameters := [.int], returnType := some (.object "com/example/skicka/skicka/Verdict") }, accessFlags := 10, code := some k1c1 }
def k1c2 : Code := { maxStack := 3, maxLocals := 6, code := code, exceptionTable := #[], attributes := #[] }
def k1m2 : Method := { name := "law", desc := "(II)Z", sig := { parameters := [.int, .int], returnType := some .boolean }, accessFlags := 9, code := some k1c2 }
/-- com/example/skicka/skicka/VerdictOfPinLaw -/
def k1 : Class := { plain "com/example/skicka/skicka/VerdictOfPinLaw" (some 0) with
  accessFlags := 49
  interfaces := #[]
  cf := some (fileOf pool1 34 #[] #[{ accessFlags := 2, nameIndex := 5, descriptorIndex := 6, attributes := #[] }, { accessFlags := 10, nameIndex := 37, descriptorIndex := 38, attributes := #[] }, { accessFlags := 9, nameIndex := 46, descriptorIndex := 47, attributes := #[] }] 49 2 #[] #[])
  fields := #[]
  methods := #[k1m0, k1m1, k1m2]
  instanceTypes := #[]
  staticTypes := #[]
  resolved := Array.replicate 50 none
  statics := none }

def pool2 : Array CpInfo := pool [(1, .class_ 2), (0, u "java/io/Serializable"), (0, .class_ 4), (0, u "java/lang/Object")] 2

/-- java/io/Serializable -/
def k2 : Class := { plain "java/io/Serializable" (some 0) with
  accessFlags := 1537
  interfaces := #[]
  cf := some (fileOf pool2 1 #[] #[] 1537 3 #[] #[])
  fields := #[]
  methods := #[]
  instanceTypes := #[]
  staticTypes := #[]
  resolved := Array.replicate 7 none
  statics := none }

def pool3 : Array CpInfo := pool [(1, .methodref 2 3), (0, .class_ 4), (0, .nameAndType 5 6), (0, u "java/lang/Object"), (0, u "<init>"), (0, u "()V"), (1, .class_ 10), (1, u "java/lang/Number"), (2, .class_ 14), (0, u "java/io/Serializable"), (0, u "serialVersionUID"), (0, u "J")] 20

def k3c0 : Code := { maxStack := 1, maxLocals := 1, code := jdk_18_method_1_code, exceptionTable := #[], attributes := #[] }
def k3m0 : Method := { name := "<init>", desc := "()V", sig := { parameters := [], returnType := none }, accessFlags := 1, code := some k3c0 }
/-- java/lang/Number -/
def k3 : Class := { plain "java/lang/Number" (some 0) with
  accessFlags := 1057
  interfaces := #[2]
  cf := some (fileOf pool3 8 #[] #[{ accessFlags := 1, nameIndex := 5, descriptorIndex := 6, attributes := #[] }] 1057 2 #[13] #[{ accessFlags := 26, nameIndex := 15, descriptorIndex := 16, attributes := #[] }])
  fields := #[{ name := "serialVersionUID", type := .long, accessFlags := 26, slot := 0, constantValue := 0 }]
  methods := #[k3m0]
  instanceTypes := #[]
  staticTypes := #[.long]
  resolved := Array.replicate 37 none
  statics := none }

def pool4 : Array CpInfo := pool [(1, .class_ 2), (0, u "java/lang/Comparable"), (0, .class_ 4), (0, u "java/lang/Object")] 7

/-- java/lang/Comparable -/
def k4 : Class := { plain "java/lang/Comparable" (some 0) with
  accessFlags := 1537
  interfaces := #[]
  cf := some (fileOf pool4 1 #[] #[] 1537 3 #[] #[])
  fields := #[]
  methods := #[]
  instanceTypes := #[]
  staticTypes := #[]
  resolved := Array.replicate 12 none
  statics := none }

def pool5 : Array CpInfo := pool [(1, .class_ 2), (0, u "java/lang/constant/Constable"), (0, .class_ 4), (0, u "java/lang/Object")] 6

/-- java/lang/constant/Constable -/
def k5 : Class := { plain "java/lang/constant/Constable" (some 0) with
  accessFlags := 1537
  interfaces := #[]
  cf := some (fileOf pool5 1 #[] #[] 1537 3 #[] #[])
  fields := #[]
  methods := #[]
  instanceTypes := #[]
  staticTypes := #[]
  resolved := Array.replicate 11 none
  statics := none }

def pool6 : Array CpInfo := pool [(1, .class_ 2), (0, u "java/lang/constant/ConstantDesc"), (0, .class_ 4), (0, u "java/lang/Object")] 32

/-- java/lang/constant/ConstantDesc -/
def k6 : Class := { plain "java/lang/constant/ConstantDesc" (some 0) with
  accessFlags := 1537
  interfaces := #[]
  cf := some (fileOf pool6 1 #[] #[] 1537 3 #[] #[])
  fields := #[]
  methods := #[]
  instanceTypes := #[]
  staticTypes := #[]
  resolved := Array.replicate 37 none
  statics := none }

def pool7 : Array CpInfo := pool [(1, .class_ 2), (0, u "java/lang/Integer"), (16, u "digits"), (0, u "[C"), (46, u "<init>"), (17, u "DigitOnes"), (0, u "[B"), (2, u "DigitTens"), (10, .nameAndType 67 101), (0, u "()V"), (19, u "()I"), (65, u "valueOf"), (0, u "(I)Ljava/lang/Integer;"), (0, .class_ 190), (0, u "java/lang/Integer$IntegerCache"), (0, .fieldref 189 192), (0, .nameAndType 193 194), (0, u "high"), (0, u "I"), (0, .fieldref 189 196), (0, .nameAndType 197 198), (0, u "cache"), (0, u "[Ljava/lang/Integer;"), (0, .methodref 1 200), (0, .nameAndType 67 201), (0, u "(I)V"), (0, .methodref 203 100), (0, .class_ 204), (0, u "java/lang/Number"), (0, .fieldref 1 206), (0, .nameAndType 207 194), (0, u "value"), (5, u "intValue"), (88, u "TYPE"), (0, u "Ljava/lang/Class;"), (0, .class_ 305), (0, u "java/lang/Comparable"), (0, .class_ 307), (0, u "java/lang/constant/Constable"), (0, .class_ 309), (0, u "java/lang/constant/ConstantDesc"), (0, u "MIN_VALUE"), (1, u "MAX_VALUE"), (3, u "SIZE"), (1, u "BYTES"), (1, u "serialVersionUID"), (0, u "J")] 131

def k7c0 : Code := { maxStack := 3, maxLocals := 1, code := jdk_33_method_22_code, exceptionTable := #[], attributes := #[] }
def k7m0 : Method := { name := "valueOf", desc := "(I)Ljava/lang/Integer;", sig := { parameters := [.int], returnType := some (.object "java/lang/Integer") }, accessFlags := 9, code := some k7c0 }
def k7c1 : Code := { maxStack := 2, maxLocals := 2, code := jdk_33_method_23_code, exceptionTable := #[], attributes := #[] }
def k7m1 : Method := { name := "<init>", desc := "(I)V", sig := { parameters := [.int], returnType := none }, accessFlags := 1, code := some k7c1 }
def k7c2 : Code := { maxStack := 1, maxLocals := 1, code := jdk_33_method_27_code, exceptionTable := #[], attributes := #[] }
def k7m2 : Method := { name := "intValue", desc := "()I", sig := { parameters := [], returnType := some .int }, accessFlags := 1, code := some k7c2 }
/-- java/lang/Integer -/
def k7 : Class := { plain "java/lang/Integer" (some 3) with
  accessFlags := 49
  interfaces := #[4, 5, 6]
  cf := some (fileOf pool7 1 #[.nestMembers #[189]] #[{ accessFlags := 9, nameIndex := 187, descriptorIndex := 188, attributes := #[] }, { accessFlags := 1, nameIndex := 67, descriptorIndex := 201, attributes := #[] }, { accessFlags := 1, nameIndex := 213, descriptorIndex := 121, attributes := #[] }] 49 203 #[304, 306, 308] #[{ accessFlags := 25, nameIndex := 310, descriptorIndex := 194, attributes := #[] }, { accessFlags := 25, nameIndex := 312, descriptorIndex := 194, attributes := #[] }, { accessFlags := 25, nameIndex := 302, descriptorIndex := 303, attributes := #[] }, { accessFlags := 24, nameIndex := 19, descriptorIndex := 20, attributes := #[] }, { accessFlags := 24, nameIndex := 89, descriptorIndex := 86, attributes := #[] }, { accessFlags := 24, nameIndex := 85, descriptorIndex := 86, attributes := #[] }, { accessFlags := 18, nameIndex := 207, descriptorIndex := 194, attributes := #[] }, { accessFlags := 25, nameIndex := 316, descriptorIndex := 194, attributes := #[] }, { accessFlags := 25, nameIndex := 318, descriptorIndex := 194, attributes := #[] }, { accessFlags := 26, nameIndex := 320, descriptorIndex := 321, attributes := #[] }])
  fields := #[{ name := "MIN_VALUE", type := .int, accessFlags := 25, slot := 0, constantValue := 0 }, { name := "MAX_VALUE", type := .int, accessFlags := 25, slot := 1, constantValue := 0 }, { name := "TYPE", type := (.object "java/lang/Class"), accessFlags := 25, slot := 2, constantValue := 0 }, { name := "digits", type := (.array .char), accessFlags := 24, slot := 3, constantValue := 0 }, { name := "DigitTens", type := (.array .byte), accessFlags := 24, slot := 4, constantValue := 0 }, { name := "DigitOnes", type := (.array .byte), accessFlags := 24, slot := 5, constantValue := 0 }, { name := "value", type := .int, accessFlags := 18, slot := 0, constantValue := 0 }, { name := "SIZE", type := .int, accessFlags := 25, slot := 6, constantValue := 0 }, { name := "BYTES", type := .int, accessFlags := 25, slot := 7, constantValue := 0 }, { name := "serialVersionUID", type := .long, accessFlags := 26, slot := 8, constantValue := 0 }]
  methods := #[k7m0, k7m1, k7m2]
  instanceTypes := #[.int]
  staticTypes := #[.int, .int, (.object "java/lang/Class"), (.array .char), (.array .byte), (.array .byte), .int, .int, .long]
  resolved := Array.replicate 453 none
  statics := none }

def pool8 : Array CpInfo := pool [(2, .class_ 4), (1, u "java/lang/Object"), (0, u "<init>"), (0, u "()V"), (0, .class_ 8), (0, u "java/lang/Integer"), (7, .class_ 18), (1, u "java/lang/Integer$IntegerCache"), (0, u "$assertionsDisabled"), (0, u "Z"), (26, u "high"), (0, u "I"), (8, u "archivedCache"), (0, u "[Ljava/lang/Integer;"), (12, u "cache"), (0, u "low")] 27

def k8m0 : Method := { name := "<init>", desc := "()V", sig := { parameters := [], returnType := none }, accessFlags := 2, code := none }
/-- java/lang/Integer$IntegerCache -/
def k8 : Class := { plain "java/lang/Integer$IntegerCache" (some 0) with
  accessFlags := 48
  interfaces := #[]
  cf := some (fileOf pool8 16 #[.nestHost 7] #[{ accessFlags := 2, nameIndex := 5, descriptorIndex := 6, attributes := #[] }] 48 2 #[] #[{ accessFlags := 24, nameIndex := 72, descriptorIndex := 48, attributes := #[] }, { accessFlags := 24, nameIndex := 47, descriptorIndex := 48, attributes := #[] }, { accessFlags := 24, nameIndex := 71, descriptorIndex := 58, attributes := #[] }, { accessFlags := 8, nameIndex := 57, descriptorIndex := 58, attributes := #[] }, { accessFlags := 4120, nameIndex := 19, descriptorIndex := 20, attributes := #[] }])
  fields := #[{ name := "low", type := .int, accessFlags := 24, slot := 0, constantValue := 0 }, { name := "high", type := .int, accessFlags := 24, slot := 1, constantValue := 0 }, { name := "cache", type := (.array (.object "java/lang/Integer")), accessFlags := 24, slot := 2, constantValue := 0 }, { name := "archivedCache", type := (.array (.object "java/lang/Integer")), accessFlags := 8, slot := 3, constantValue := 0 }, { name := "$assertionsDisabled", type := .boolean, accessFlags := 4120, slot := 4, constantValue := 0 }]
  methods := #[k8m0]
  instanceTypes := #[]
  staticTypes := #[.int, .int, (.array (.object "java/lang/Integer")), (.array (.object "java/lang/Integer")), .boolean]
  resolved := Array.replicate 100 none
  statics := some 0 }

def pool9 : Array CpInfo := pool [(2, .class_ 4), (1, u "java/lang/Enum"), (0, u "name"), (0, u "Ljava/lang/String;"), (2, u "ordinal"), (0, u "I"), (1, .class_ 14), (1, u "java/lang/Object"), (4, u "hash"), (86, .class_ 108), (1, u "java/lang/Enum$EnumDesc"), (2, .class_ 112), (0, u "java/lang/constant/Constable"), (0, .class_ 114), (0, u "java/lang/Comparable"), (0, .class_ 116), (0, u "java/io/Serializable")] 87

/-- java/lang/Enum -/
def k9 : Class := { plain "java/lang/Enum" (some 0) with
  accessFlags := 1057
  interfaces := #[5, 4, 2]
  cf := some (fileOf pool9 2 #[.nestMembers #[106]] #[] 1057 12 #[111, 113, 115] #[{ accessFlags := 18, nameIndex := 5, descriptorIndex := 6, attributes := #[] }, { accessFlags := 18, nameIndex := 9, descriptorIndex := 10, attributes := #[] }, { accessFlags := 2, nameIndex := 19, descriptorIndex := 10, attributes := #[] }])
  fields := #[{ name := "name", type := (.object "java/lang/String"), accessFlags := 18, slot := 0, constantValue := 0 }, { name := "ordinal", type := .int, accessFlags := 18, slot := 1, constantValue := 0 }, { name := "hash", type := .int, accessFlags := 2, slot := 2, constantValue := 0 }]
  methods := #[]
  instanceTypes := #[(.object "java/lang/String"), .int, .int]
  staticTypes := #[]
  resolved := Array.replicate 204 none
  statics := none }

def pool10 : Array CpInfo := pool [(1, .class_ 2), (0, u "com/example/skicka/skicka/Verdict"), (0, .fieldref 1 4), (0, .nameAndType 5 6), (0, u "DELIVERED"), (0, u "Lcom/example/skicka/skicka/Verdict;"), (0, .fieldref 1 8), (0, .nameAndType 9 6), (0, u "GONE"), (0, .fieldref 1 11), (0, .nameAndType 12 6), (0, u "REFUSED"), (0, .fieldref 1 14), (0, .nameAndType 15 6), (0, u "RETRY"), (2, u "$VALUES"), (0, u "[Lcom/example/skicka/skicka/Verdict;"), (6, .class_ 28), (1, u "java/lang/Enum"), (6, .methodref 36 37), (0, .class_ 38), (0, .nameAndType 39 40), (0, u "java/lang/Integer"), (0, u "intValue"), (0, u "()I"), (16, u "of"), (0, u "(Ljava/lang/Integer;)Lcom/example/skicka/skicka/Verdict;")] 5

def k10c0 : Code := { maxStack := 2, maxLocals := 2, code := prog_14_method_4_code, exceptionTable := #[], attributes := #[] }
def k10m0 : Method := { name := "of", desc := "(Ljava/lang/Integer;)Lcom/example/skicka/skicka/Verdict;", sig := { parameters := [(.object "java/lang/Integer")], returnType := some (.object "com/example/skicka/skicka/Verdict") }, accessFlags := 8, code := some k10c0 }
/-- com/example/skicka/skicka/Verdict -/
def k10 : Class := { plain "com/example/skicka/skicka/Verdict" (some 9) with
  accessFlags := 16432
  interfaces := #[]
  cf := some (fileOf pool10 1 #[] #[{ accessFlags := 8, nameIndex := 57, descriptorIndex := 58, attributes := #[] }] 16432 26 #[] #[{ accessFlags := 16409, nameIndex := 5, descriptorIndex := 6, attributes := #[] }, { accessFlags := 16409, nameIndex := 9, descriptorIndex := 6, attributes := #[] }, { accessFlags := 16409, nameIndex := 12, descriptorIndex := 6, attributes := #[] }, { accessFlags := 16409, nameIndex := 15, descriptorIndex := 6, attributes := #[] }, { accessFlags := 4122, nameIndex := 18, descriptorIndex := 19, attributes := #[] }])
  fields := #[{ name := "DELIVERED", type := (.object "com/example/skicka/skicka/Verdict"), accessFlags := 16409, slot := 0, constantValue := 0 }, { name := "GONE", type := (.object "com/example/skicka/skicka/Verdict"), accessFlags := 16409, slot := 1, constantValue := 0 }, { name := "REFUSED", type := (.object "com/example/skicka/skicka/Verdict"), accessFlags := 16409, slot := 2, constantValue := 0 }, { name := "RETRY", type := (.object "com/example/skicka/skicka/Verdict"), accessFlags := 16409, slot := 3, constantValue := 0 }, { name := "$VALUES", type := (.array (.object "com/example/skicka/skicka/Verdict")), accessFlags := 4122, slot := 4, constantValue := 0 }]
  methods := #[k10m0]
  instanceTypes := #[(.object "java/lang/String"), .int, .int]
  staticTypes := #[(.object "com/example/skicka/skicka/Verdict"), (.object "com/example/skicka/skicka/Verdict"), (.object "com/example/skicka/skicka/Verdict"), (.object "com/example/skicka/skicka/Verdict"), (.array (.object "com/example/skicka/skicka/Verdict"))]
  resolved := Array.replicate 64 none
  statics := some 1 }

def pool11 : Array CpInfo := pool [(1, u "java/lang/Cloneable"), (0, .class_ 1), (0, u "java/lang/Object"), (0, .class_ 3)] 3

/-- java/lang/Cloneable -/
def k11 : Class := { plain "java/lang/Cloneable" (some 0) with
  accessFlags := 1537
  interfaces := #[]
  cf := some (fileOf pool11 2 #[] #[] 1537 4 #[] #[])
  fields := #[]
  methods := #[]
  instanceTypes := #[]
  staticTypes := #[]
  resolved := Array.replicate 8 none
  statics := none }

/-- the primitive byte -/
def k12 : Class := { plain "byte" none with kind := .primitive 'B', accessFlags := 0x411 }
/-- [B -/
def k13 : Class := { plain "[B" (some 0) with kind := .array 12 .byte, interfaces := #[11, 2], accessFlags := 1041 }

/-- the primitive int -/
def k14 : Class := { plain "int" none with kind := .primitive 'I', accessFlags := 0x411 }
/-- [I -/
def k15 : Class := { plain "[I" (some 0) with kind := .array 14 .int, interfaces := #[11, 2], accessFlags := 1041 }

/-- [Ljava/lang/Integer; -/
def k16 : Class := { plain "[Ljava/lang/Integer;" (some 0) with kind := .array 7 (.object "java/lang/Integer"), interfaces := #[11, 2], accessFlags := 1041 }

def heap : Heap := #[{ cls := 8, slots := #[.int 0, .int 127, .ref 2, .null, .int 0], vm := .statics 8 },
  { cls := 10, slots := #[.ref 259, .ref 262, .ref 261, .ref 260, .null], vm := .statics 10 },
  { cls := 16, slots := #[.ref 3, .ref 4, .ref 5, .ref 6, .ref 7, .ref 8, .ref 9, .ref 10, .ref 11, .ref 12, .ref 13, .ref 14, .ref 15, .ref 16, .ref 17, .ref 18, .ref 19, .ref 20, .ref 21, .ref 22, .ref 23, .ref 24, .ref 25, .ref 26, .ref 27, .ref 28, .ref 29, .ref 30, .ref 31, .ref 32, .ref 33, .ref 34, .ref 35, .ref 36, .ref 37, .ref 38, .ref 39, .ref 40, .ref 41, .ref 42, .ref 43, .ref 44, .ref 45, .ref 46, .ref 47, .ref 48, .ref 49, .ref 50, .ref 51, .ref 52, .ref 53, .ref 54, .ref 55, .ref 56, .ref 57, .ref 58, .ref 59, .ref 60, .ref 61, .ref 62, .ref 63, .ref 64, .ref 65, .ref 66, .ref 67, .ref 68, .ref 69, .ref 70, .ref 71, .ref 72, .ref 73, .ref 74, .ref 75, .ref 76, .ref 77, .ref 78, .ref 79, .ref 80, .ref 81, .ref 82, .ref 83, .ref 84, .ref 85, .ref 86, .ref 87, .ref 88, .ref 89, .ref 90, .ref 91, .ref 92, .ref 93, .ref 94, .ref 95, .ref 96, .ref 97, .ref 98, .ref 99, .ref 100, .ref 101, .ref 102, .ref 103, .ref 104, .ref 105, .ref 106, .ref 107, .ref 108, .ref 109, .ref 110, .ref 111, .ref 112, .ref 113, .ref 114, .ref 115, .ref 116, .ref 117, .ref 118, .ref 119, .ref 120, .ref 121, .ref 122, .ref 123, .ref 124, .ref 125, .ref 126, .ref 127, .ref 128, .ref 129, .ref 130, .ref 131, .ref 132, .ref 133, .ref 134, .ref 135, .ref 136, .ref 137, .ref 138, .ref 139, .ref 140, .ref 141, .ref 142, .ref 143, .ref 144, .ref 145, .ref 146, .ref 147, .ref 148, .ref 149, .ref 150, .ref 151, .ref 152, .ref 153, .ref 154, .ref 155, .ref 156, .ref 157, .ref 158, .ref 159, .ref 160, .ref 161, .ref 162, .ref 163, .ref 164, .ref 165, .ref 166, .ref 167, .ref 168, .ref 169, .ref 170, .ref 171, .ref 172, .ref 173, .ref 174, .ref 175, .ref 176, .ref 177, .ref 178, .ref 179, .ref 180, .ref 181, .ref 182, .ref 183, .ref 184, .ref 185, .ref 186, .ref 187, .ref 188, .ref 189, .ref 190, .ref 191, .ref 192, .ref 193, .ref 194, .ref 195, .ref 196, .ref 197, .ref 198, .ref 199, .ref 200, .ref 201, .ref 202, .ref 203, .ref 204, .ref 205, .ref 206, .ref 207, .ref 208, .ref 209, .ref 210, .ref 211, .ref 212, .ref 213, .ref 214, .ref 215, .ref 216, .ref 217, .ref 218, .ref 219, .ref 220, .ref 221, .ref 222, .ref 223, .ref 224, .ref 225, .ref 226, .ref 227, .ref 228, .ref 229, .ref 230, .ref 231, .ref 232, .ref 233, .ref 234, .ref 235, .ref 236, .ref 237, .ref 238, .ref 239, .ref 240, .ref 241, .ref 242, .ref 243, .ref 244, .ref 245, .ref 246, .ref 247, .ref 248, .ref 249, .ref 250, .ref 251, .ref 252, .ref 253, .ref 254, .ref 255, .ref 256, .ref 257, .ref 258], vm := .none },
  { cls := 7, slots := #[.int (-128)], vm := .none },
  { cls := 7, slots := #[.int (-127)], vm := .none },
  { cls := 7, slots := #[.int (-126)], vm := .none },
  { cls := 7, slots := #[.int (-125)], vm := .none },
  { cls := 7, slots := #[.int (-124)], vm := .none },
  { cls := 7, slots := #[.int (-123)], vm := .none },
  { cls := 7, slots := #[.int (-122)], vm := .none },
  { cls := 7, slots := #[.int (-121)], vm := .none },
  { cls := 7, slots := #[.int (-120)], vm := .none },
  { cls := 7, slots := #[.int (-119)], vm := .none },
  { cls := 7, slots := #[.int (-118)], vm := .none },
  { cls := 7, slots := #[.int (-117)], vm := .none },
  { cls := 7, slots := #[.int (-116)], vm := .none },
  { cls := 7, slots := #[.int (-115)], vm := .none },
  { cls := 7, slots := #[.int (-114)], vm := .none },
  { cls := 7, slots := #[.int (-113)], vm := .none },
  { cls := 7, slots := #[.int (-112)], vm := .none },
  { cls := 7, slots := #[.int (-111)], vm := .none },
  { cls := 7, slots := #[.int (-110)], vm := .none },
  { cls := 7, slots := #[.int (-109)], vm := .none },
  { cls := 7, slots := #[.int (-108)], vm := .none },
  { cls := 7, slots := #[.int (-107)], vm := .none },
  { cls := 7, slots := #[.int (-106)], vm := .none },
  { cls := 7, slots := #[.int (-105)], vm := .none },
  { cls := 7, slots := #[.int (-104)], vm := .none },
  { cls := 7, slots := #[.int (-103)], vm := .none },
  { cls := 7, slots := #[.int (-102)], vm := .none },
  { cls := 7, slots := #[.int (-101)], vm := .none },
  { cls := 7, slots := #[.int (-100)], vm := .none },
  { cls := 7, slots := #[.int (-99)], vm := .none },
  { cls := 7, slots := #[.int (-98)], vm := .none },
  { cls := 7, slots := #[.int (-97)], vm := .none },
  { cls := 7, slots := #[.int (-96)], vm := .none },
  { cls := 7, slots := #[.int (-95)], vm := .none },
  { cls := 7, slots := #[.int (-94)], vm := .none },
  { cls := 7, slots := #[.int (-93)], vm := .none },
  { cls := 7, slots := #[.int (-92)], vm := .none },
  { cls := 7, slots := #[.int (-91)], vm := .none },
  { cls := 7, slots := #[.int (-90)], vm := .none },
  { cls := 7, slots := #[.int (-89)], vm := .none },
  { cls := 7, slots := #[.int (-88)], vm := .none },
  { cls := 7, slots := #[.int (-87)], vm := .none },
  { cls := 7, slots := #[.int (-86)], vm := .none },
  { cls := 7, slots := #[.int (-85)], vm := .none },
  { cls := 7, slots := #[.int (-84)], vm := .none },
  { cls := 7, slots := #[.int (-83)], vm := .none },
  { cls := 7, slots := #[.int (-82)], vm := .none },
  { cls := 7, slots := #[.int (-81)], vm := .none },
  { cls := 7, slots := #[.int (-80)], vm := .none },
  { cls := 7, slots := #[.int (-79)], vm := .none },
  { cls := 7, slots := #[.int (-78)], vm := .none },
  { cls := 7, slots := #[.int (-77)], vm := .none },
  { cls := 7, slots := #[.int (-76)], vm := .none },
  { cls := 7, slots := #[.int (-75)], vm := .none },
  { cls := 7, slots := #[.int (-74)], vm := .none },
  { cls := 7, slots := #[.int (-73)], vm := .none },
  { cls := 7, slots := #[.int (-72)], vm := .none },
  { cls := 7, slots := #[.int (-71)], vm := .none },
  { cls := 7, slots := #[.int (-70)], vm := .none },
  { cls := 7, slots := #[.int (-69)], vm := .none },
  { cls := 7, slots := #[.int (-68)], vm := .none },
  { cls := 7, slots := #[.int (-67)], vm := .none },
  { cls := 7, slots := #[.int (-66)], vm := .none },
  { cls := 7, slots := #[.int (-65)], vm := .none },
  { cls := 7, slots := #[.int (-64)], vm := .none },
  { cls := 7, slots := #[.int (-63)], vm := .none },
  { cls := 7, slots := #[.int (-62)], vm := .none },
  { cls := 7, slots := #[.int (-61)], vm := .none },
  { cls := 7, slots := #[.int (-60)], vm := .none },
  { cls := 7, slots := #[.int (-59)], vm := .none },
  { cls := 7, slots := #[.int (-58)], vm := .none },
  { cls := 7, slots := #[.int (-57)], vm := .none },
  { cls := 7, slots := #[.int (-56)], vm := .none },
  { cls := 7, slots := #[.int (-55)], vm := .none },
  { cls := 7, slots := #[.int (-54)], vm := .none },
  { cls := 7, slots := #[.int (-53)], vm := .none },
  { cls := 7, slots := #[.int (-52)], vm := .none },
  { cls := 7, slots := #[.int (-51)], vm := .none },
  { cls := 7, slots := #[.int (-50)], vm := .none },
  { cls := 7, slots := #[.int (-49)], vm := .none },
  { cls := 7, slots := #[.int (-48)], vm := .none },
  { cls := 7, slots := #[.int (-47)], vm := .none },
  { cls := 7, slots := #[.int (-46)], vm := .none },
  { cls := 7, slots := #[.int (-45)], vm := .none },
  { cls := 7, slots := #[.int (-44)], vm := .none },
  { cls := 7, slots := #[.int (-43)], vm := .none },
  { cls := 7, slots := #[.int (-42)], vm := .none },
  { cls := 7, slots := #[.int (-41)], vm := .none },
  { cls := 7, slots := #[.int (-40)], vm := .none },
  { cls := 7, slots := #[.int (-39)], vm := .none },
  { cls := 7, slots := #[.int (-38)], vm := .none },
  { cls := 7, slots := #[.int (-37)], vm := .none },
  { cls := 7, slots := #[.int (-36)], vm := .none },
  { cls := 7, slots := #[.int (-35)], vm := .none },
  { cls := 7, slots := #[.int (-34)], vm := .none },
  { cls := 7, slots := #[.int (-33)], vm := .none },
  { cls := 7, slots := #[.int (-32)], vm := .none },
  { cls := 7, slots := #[.int (-31)], vm := .none },
  { cls := 7, slots := #[.int (-30)], vm := .none },
  { cls := 7, slots := #[.int (-29)], vm := .none },
  { cls := 7, slots := #[.int (-28)], vm := .none },
  { cls := 7, slots := #[.int (-27)], vm := .none },
  { cls := 7, slots := #[.int (-26)], vm := .none },
  { cls := 7, slots := #[.int (-25)], vm := .none },
  { cls := 7, slots := #[.int (-24)], vm := .none },
  { cls := 7, slots := #[.int (-23)], vm := .none },
  { cls := 7, slots := #[.int (-22)], vm := .none },
  { cls := 7, slots := #[.int (-21)], vm := .none },
  { cls := 7, slots := #[.int (-20)], vm := .none },
  { cls := 7, slots := #[.int (-19)], vm := .none },
  { cls := 7, slots := #[.int (-18)], vm := .none },
  { cls := 7, slots := #[.int (-17)], vm := .none },
  { cls := 7, slots := #[.int (-16)], vm := .none },
  { cls := 7, slots := #[.int (-15)], vm := .none },
  { cls := 7, slots := #[.int (-14)], vm := .none },
  { cls := 7, slots := #[.int (-13)], vm := .none },
  { cls := 7, slots := #[.int (-12)], vm := .none },
  { cls := 7, slots := #[.int (-11)], vm := .none },
  { cls := 7, slots := #[.int (-10)], vm := .none },
  { cls := 7, slots := #[.int (-9)], vm := .none },
  { cls := 7, slots := #[.int (-8)], vm := .none },
  { cls := 7, slots := #[.int (-7)], vm := .none },
  { cls := 7, slots := #[.int (-6)], vm := .none },
  { cls := 7, slots := #[.int (-5)], vm := .none },
  { cls := 7, slots := #[.int (-4)], vm := .none },
  { cls := 7, slots := #[.int (-3)], vm := .none },
  { cls := 7, slots := #[.int (-2)], vm := .none },
  { cls := 7, slots := #[.int (-1)], vm := .none },
  { cls := 7, slots := #[.int (0)], vm := .none },
  { cls := 7, slots := #[.int (1)], vm := .none },
  { cls := 7, slots := #[.int (2)], vm := .none },
  { cls := 7, slots := #[.int (3)], vm := .none },
  { cls := 7, slots := #[.int (4)], vm := .none },
  { cls := 7, slots := #[.int (5)], vm := .none },
  { cls := 7, slots := #[.int (6)], vm := .none },
  { cls := 7, slots := #[.int (7)], vm := .none },
  { cls := 7, slots := #[.int (8)], vm := .none },
  { cls := 7, slots := #[.int (9)], vm := .none },
  { cls := 7, slots := #[.int (10)], vm := .none },
  { cls := 7, slots := #[.int (11)], vm := .none },
  { cls := 7, slots := #[.int (12)], vm := .none },
  { cls := 7, slots := #[.int (13)], vm := .none },
  { cls := 7, slots := #[.int (14)], vm := .none },
  { cls := 7, slots := #[.int (15)], vm := .none },
  { cls := 7, slots := #[.int (16)], vm := .none },
  { cls := 7, slots := #[.int (17)], vm := .none },
  { cls := 7, slots := #[.int (18)], vm := .none },
  { cls := 7, slots := #[.int (19)], vm := .none },
  { cls := 7, slots := #[.int (20)], vm := .none },
  { cls := 7, slots := #[.int (21)], vm := .none },
  { cls := 7, slots := #[.int (22)], vm := .none },
  { cls := 7, slots := #[.int (23)], vm := .none },
  { cls := 7, slots := #[.int (24)], vm := .none },
  { cls := 7, slots := #[.int (25)], vm := .none },
  { cls := 7, slots := #[.int (26)], vm := .none },
  { cls := 7, slots := #[.int (27)], vm := .none },
  { cls := 7, slots := #[.int (28)], vm := .none },
  { cls := 7, slots := #[.int (29)], vm := .none },
  { cls := 7, slots := #[.int (30)], vm := .none },
  { cls := 7, slots := #[.int (31)], vm := .none },
  { cls := 7, slots := #[.int (32)], vm := .none },
  { cls := 7, slots := #[.int (33)], vm := .none },
  { cls := 7, slots := #[.int (34)], vm := .none },
  { cls := 7, slots := #[.int (35)], vm := .none },
  { cls := 7, slots := #[.int (36)], vm := .none },
  { cls := 7, slots := #[.int (37)], vm := .none },
  { cls := 7, slots := #[.int (38)], vm := .none },
  { cls := 7, slots := #[.int (39)], vm := .none },
  { cls := 7, slots := #[.int (40)], vm := .none },
  { cls := 7, slots := #[.int (41)], vm := .none },
  { cls := 7, slots := #[.int (42)], vm := .none },
  { cls := 7, slots := #[.int (43)], vm := .none },
  { cls := 7, slots := #[.int (44)], vm := .none },
  { cls := 7, slots := #[.int (45)], vm := .none },
  { cls := 7, slots := #[.int (46)], vm := .none },
  { cls := 7, slots := #[.int (47)], vm := .none },
  { cls := 7, slots := #[.int (48)], vm := .none },
  { cls := 7, slots := #[.int (49)], vm := .none },
  { cls := 7, slots := #[.int (50)], vm := .none },
  { cls := 7, slots := #[.int (51)], vm := .none },
  { cls := 7, slots := #[.int (52)], vm := .none },
  { cls := 7, slots := #[.int (53)], vm := .none },
  { cls := 7, slots := #[.int (54)], vm := .none },
  { cls := 7, slots := #[.int (55)], vm := .none },
  { cls := 7, slots := #[.int (56)], vm := .none },
  { cls := 7, slots := #[.int (57)], vm := .none },
  { cls := 7, slots := #[.int (58)], vm := .none },
  { cls := 7, slots := #[.int (59)], vm := .none },
  { cls := 7, slots := #[.int (60)], vm := .none },
  { cls := 7, slots := #[.int (61)], vm := .none },
  { cls := 7, slots := #[.int (62)], vm := .none },
  { cls := 7, slots := #[.int (63)], vm := .none },
  { cls := 7, slots := #[.int (64)], vm := .none },
  { cls := 7, slots := #[.int (65)], vm := .none },
  { cls := 7, slots := #[.int (66)], vm := .none },
  { cls := 7, slots := #[.int (67)], vm := .none },
  { cls := 7, slots := #[.int (68)], vm := .none },
  { cls := 7, slots := #[.int (69)], vm := .none },
  { cls := 7, slots := #[.int (70)], vm := .none },
  { cls := 7, slots := #[.int (71)], vm := .none },
  { cls := 7, slots := #[.int (72)], vm := .none },
  { cls := 7, slots := #[.int (73)], vm := .none },
  { cls := 7, slots := #[.int (74)], vm := .none },
  { cls := 7, slots := #[.int (75)], vm := .none },
  { cls := 7, slots := #[.int (76)], vm := .none },
  { cls := 7, slots := #[.int (77)], vm := .none },
  { cls := 7, slots := #[.int (78)], vm := .none },
  { cls := 7, slots := #[.int (79)], vm := .none },
  { cls := 7, slots := #[.int (80)], vm := .none },
  { cls := 7, slots := #[.int (81)], vm := .none },
  { cls := 7, slots := #[.int (82)], vm := .none },
  { cls := 7, slots := #[.int (83)], vm := .none },
  { cls := 7, slots := #[.int (84)], vm := .none },
  { cls := 7, slots := #[.int (85)], vm := .none },
  { cls := 7, slots := #[.int (86)], vm := .none },
  { cls := 7, slots := #[.int (87)], vm := .none },
  { cls := 7, slots := #[.int (88)], vm := .none },
  { cls := 7, slots := #[.int (89)], vm := .none },
  { cls := 7, slots := #[.int (90)], vm := .none },
  { cls := 7, slots := #[.int (91)], vm := .none },
  { cls := 7, slots := #[.int (92)], vm := .none },
  { cls := 7, slots := #[.int (93)], vm := .none },
  { cls := 7, slots := #[.int (94)], vm := .none },
  { cls := 7, slots := #[.int (95)], vm := .none },
  { cls := 7, slots := #[.int (96)], vm := .none },
  { cls := 7, slots := #[.int (97)], vm := .none },
  { cls := 7, slots := #[.int (98)], vm := .none },
  { cls := 7, slots := #[.int (99)], vm := .none },
  { cls := 7, slots := #[.int (100)], vm := .none },
  { cls := 7, slots := #[.int (101)], vm := .none },
  { cls := 7, slots := #[.int (102)], vm := .none },
  { cls := 7, slots := #[.int (103)], vm := .none },
  { cls := 7, slots := #[.int (104)], vm := .none },
  { cls := 7, slots := #[.int (105)], vm := .none },
  { cls := 7, slots := #[.int (106)], vm := .none },
  { cls := 7, slots := #[.int (107)], vm := .none },
  { cls := 7, slots := #[.int (108)], vm := .none },
  { cls := 7, slots := #[.int (109)], vm := .none },
  { cls := 7, slots := #[.int (110)], vm := .none },
  { cls := 7, slots := #[.int (111)], vm := .none },
  { cls := 7, slots := #[.int (112)], vm := .none },
  { cls := 7, slots := #[.int (113)], vm := .none },
  { cls := 7, slots := #[.int (114)], vm := .none },
  { cls := 7, slots := #[.int (115)], vm := .none },
  { cls := 7, slots := #[.int (116)], vm := .none },
  { cls := 7, slots := #[.int (117)], vm := .none },
  { cls := 7, slots := #[.int (118)], vm := .none },
  { cls := 7, slots := #[.int (119)], vm := .none },
  { cls := 7, slots := #[.int (120)], vm := .none },
  { cls := 7, slots := #[.int (121)], vm := .none },
  { cls := 7, slots := #[.int (122)], vm := .none },
  { cls := 7, slots := #[.int (123)], vm := .none },
  { cls := 7, slots := #[.int (124)], vm := .none },
  { cls := 7, slots := #[.int (125)], vm := .none },
  { cls := 7, slots := #[.int (126)], vm := .none },
  { cls := 7, slots := #[.int (127)], vm := .none },
  { cls := 10, slots := #[.null, .int 0, .int 0], vm := .none },
  { cls := 10, slots := #[.null, .int 1, .int 0], vm := .none },
  { cls := 10, slots := #[.null, .int 2, .int 0], vm := .none },
  { cls := 10, slots := #[.null, .int 3, .int 0], vm := .none }]
def classes : Array Class := #[k0, k1, k2, k3, k4, k5, k6, k7, k8, k9, k10, k11, k12, k13, k14, k15, k16]
def interned : List (Array UInt16 × Addr) := []
def slotsUsed : Nat := 534
def theMethod : MethodId := ⟨1, 2⟩
def args0 : Array Value := #[.int 5, .int 9]
def aboutOver (below : List Frame) : State where
  vm := { classes := classes, interned := interned.toArray }
  heap := heap
  slotsUsed := slotsUsed
  threads := #[{ frames := .invoking theMethod args0 :: below }]
def below0 : List Frame := [.native { method := ⟨0, 0⟩, args := #[] }]
def about1 : State := aboutOver below0
def p0 : Program := .bare "" "" ""
def e0 : Env := launch0.env 0 0 0
theorem w_frames : about1.frames = Frame.invoking theMethod args0 :: below0 := rfl
set_option maxRecDepth 65536 in
theorem w_args : argsFit about1.vm theMethod args0 = true := by decide +kernel
set_option maxRecDepth 65536 in
theorem w_heap : heapFits about1 = true := by decide +kernel
set_option maxRecDepth 65536 in
theorem w_runnable : about1.curStatus? = some .runnable := by decide +kernel
set_option maxRecDepth 65536 in
theorem w_alone : about1.alone = true := by decide +kernel
set_option maxRecDepth 65536 in
theorem w_named : about1.methodNamed? x = some theMethod := by decide +kernel
set_option maxRecDepth 65536 in
theorem w_hears : about1.hears theMethod below0 = true := by decide +kernel
set_option maxRecDepth 65536 in
theorem w_ripe : about1.ripe theMethod args0 below0 = true := by decide +kernel
theorem w_running : about1.status = .running := rfl
set_option maxRecDepth 65536 in
theorem w_room : about1.hasRoom e0.platform room_1 = true :=
  launch0.hasRoom_least _ room_1 (by decide +kernel) (by decide +kernel) (by decide +kernel) (by decide +kernel) (by decide +kernel) (by decide +kernel)
theorem allAtoms_all (ts : List Jvm.Cond) (a : Array Jvm.Value) (st : Jvm.State) : (allAtoms ts).before a st = ts.all (fun c => c.before a st) := by
  induction ts with
  | nil => rfl
  | cons c t ih =>
    show (Jvm.Cond.and c (allAtoms t)).before a st = _
    rw [Jvm.Cond.before_and, ih, List.all_cons]
def words1 : List Jvm.Cond := Jvm.Cond.code x code maxLocals ret :: tables_1
/-- a 'code' word, met by the world's own term for the bytes: nothing is compared byte by byte -/
theorem code_word {y : MethodName} {bytes : ByteArray} {mx : Nat} {rt : Option FieldType} {a : Array Value} {s : State} {m : MethodId} {meth : Method} {c : Code} (h1 : s.methodNamed? y = some m) (h2 : s.vm.method? m = some meth) (h3 : meth.code = some c) (h4 : c.code = bytes)
    (h5 : (c.maxLocals == mx && c.exceptionTable.isEmpty && decide (c.maxStack ≤ mostOperands) && decide (meth.sig.returnType = rt) && !meth.locks && decide (parseMethodDescriptor y.desc = some meth.sig)) = true) : (Jvm.Cond.code y bytes mx rt).before a s = true := by
  simp only [Bool.and_eq_true, beq_iff_eq, Bool.not_eq_true', decide_eq_true_eq] at h5
  obtain ⟨⟨⟨⟨⟨g1, g2⟩, g3⟩, g4⟩, g5⟩, g6⟩ := h5
  simp [Cond.before, Cond.holds, Cond.value, h1, h2, h3, h4, g1, g2, g3, g4, g5, g6]
def isCode : Jvm.Cond → Bool
  | .code _ _ _ _ => true
  | _ => false
theorem all_split {L : List Jvm.Cond} {P : Jvm.Cond → Bool} (h1 : L.all (fun c => isCode c || P c) = true) (h2 : ∀ c ∈ L.filter isCode, P c = true) : L.all P = true := by
  refine List.all_eq_true.mpr fun c hc => ?_
  have h := List.all_eq_true.mp h1 c hc
  rcases Bool.eq_false_or_eq_true (isCode c) with hi | hi
  · exact h2 c (List.mem_filter.mpr ⟨hc, hi⟩)
  · simpa [hi] using h
set_option maxRecDepth 65536 in
theorem w_c0 : (Jvm.Cond.code x code maxLocals ret).before args0 about1 = true := code_word (m := ⟨1, 2⟩) (meth := k1m2) (c := k1c2) (by decide +kernel) rfl rfl rfl (by decide +kernel)
set_option maxRecDepth 65536 in
theorem w_c1 : (Jvm.Cond.code ({ cls := "java/lang/Integer", name := "valueOf", desc := "(I)Ljava/lang/Integer;" } : Jvm.MethodName) jdk_33_method_22_code (1 : Nat) (Option.some (Jvm.ClassFile.FieldType.object "java/lang/Integer"))).before args0 about1 = true := code_word (m := ⟨7, 0⟩) (meth := k7m0) (c := k7c0) (by decide +kernel) rfl rfl rfl (by decide +kernel)
set_option maxRecDepth 65536 in
theorem w_c2 : (Jvm.Cond.code ({ cls := "java/lang/Integer", name := "intValue", desc := "()I" } : Jvm.MethodName) jdk_33_method_27_code (1 : Nat) (Option.some Jvm.ClassFile.FieldType.int)).before args0 about1 = true := code_word (m := ⟨7, 2⟩) (meth := k7m2) (c := k7c2) (by decide +kernel) rfl rfl rfl (by decide +kernel)
set_option maxRecDepth 65536 in
theorem w_c3 : (Jvm.Cond.code ({ cls := "com/example/skicka/skicka/VerdictOfPinLaw", name := "expected", desc := "(I)Lcom/example/skicka/skicka/Verdict;" } : Jvm.MethodName) method_2_code (3 : Nat) (Option.some (Jvm.ClassFile.FieldType.object "com/example/skicka/skicka/Verdict"))).before args0 about1 = true := code_word (m := ⟨1, 1⟩) (meth := k1m1) (c := k1c1) (by decide +kernel) rfl rfl rfl (by decide +kernel)
set_option maxRecDepth 65536 in
theorem w_c4 : (Jvm.Cond.code ({ cls := "com/example/skicka/skicka/Verdict", name := "of", desc := "(Ljava/lang/Integer;)Lcom/example/skicka/skicka/Verdict;" } : Jvm.MethodName) prog_14_method_4_code (2 : Nat) (Option.some (Jvm.ClassFile.FieldType.object "com/example/skicka/skicka/Verdict"))).before args0 about1 = true := code_word (m := ⟨10, 0⟩) (meth := k10m0) (c := k10c0) (by decide +kernel) rfl rfl rfl (by decide +kernel)
set_option maxRecDepth 65536 in
theorem w_c5 : (Jvm.Cond.code ({ cls := "java/lang/Integer", name := "<init>", desc := "(I)V" } : Jvm.MethodName) jdk_33_method_23_code (2 : Nat) (Option.none : Option Jvm.ClassFile.FieldType)).before args0 about1 = true := code_word (m := ⟨7, 1⟩) (meth := k7m1) (c := k7c1) (by decide +kernel) rfl rfl rfl (by decide +kernel)
set_option maxRecDepth 65536 in
theorem w_c6 : (Jvm.Cond.code ({ cls := "java/lang/Number", name := "<init>", desc := "()V" } : Jvm.MethodName) jdk_18_method_1_code (1 : Nat) (Option.none : Option Jvm.ClassFile.FieldType)).before args0 about1 = true := code_word (m := ⟨3, 0⟩) (meth := k3m0) (c := k3c0) (by decide +kernel) rfl rfl rfl (by decide +kernel)
set_option maxRecDepth 65536 in
theorem w_c7 : (Jvm.Cond.code ({ cls := "java/lang/Object", name := "<init>", desc := "()V" } : Jvm.MethodName) object_method_1_code (1 : Nat) (Option.none : Option Jvm.ClassFile.FieldType)).before args0 about1 = true := code_word (m := ⟨0, 0⟩) (meth := k0m0) (c := k0c0) (by decide +kernel) rfl rfl rfl (by decide +kernel)
def codes1 : List Jvm.Cond := [Jvm.Cond.code x code maxLocals ret, Jvm.Cond.code ({ cls := "java/lang/Integer", name := "valueOf", desc := "(I)Ljava/lang/Integer;" } : Jvm.MethodName) jdk_33_method_22_code (1 : Nat) (Option.some (Jvm.ClassFile.FieldType.object "java/lang/Integer")), Jvm.Cond.code ({ cls := "java/lang/Integer", name := "intValue", desc := "()I" } : Jvm.MethodName) jdk_33_method_27_code (1 : Nat) (Option.some Jvm.ClassFile.FieldType.int), Jvm.Cond.code ({ cls := "com/example/skicka/skicka/VerdictOfPinLaw", name := "expected", desc := "(I)Lcom/example/skicka/skicka/Verdict;" } : Jvm.MethodName) method_2_code (3 : Nat) (Option.some (Jvm.ClassFile.FieldType.object "com/example/skicka/skicka/Verdict")), Jvm.Cond.code ({ cls := "com/example/skicka/skicka/Verdict", name := "of", desc := "(Ljava/lang/Integer;)Lcom/example/skicka/skicka/Verdict;" } : Jvm.MethodName) prog_14_method_4_code (2 : Nat) (Option.some (Jvm.ClassFile.FieldType.object "com/example/skicka/skicka/Verdict")), Jvm.Cond.code ({ cls := "java/lang/Integer", name := "<init>", desc := "(I)V" } : Jvm.MethodName) jdk_33_method_23_code (2 : Nat) (Option.none : Option Jvm.ClassFile.FieldType), Jvm.Cond.code ({ cls := "java/lang/Number", name := "<init>", desc := "()V" } : Jvm.MethodName) jdk_18_method_1_code (1 : Nat) (Option.none : Option Jvm.ClassFile.FieldType), Jvm.Cond.code ({ cls := "java/lang/Object", name := "<init>", desc := "()V" } : Jvm.MethodName) object_method_1_code (1 : Nat) (Option.none : Option Jvm.ClassFile.FieldType)]
set_option maxRecDepth 65536 in
theorem codes_eq : words1.filter isCode = codes1 := rfl
theorem w_codes : ∀ c ∈ words1.filter isCode, c.before args0 about1 = true := by
  rw [codes_eq]
  intro c hc
  simp only [codes1, List.mem_cons, List.not_mem_nil, or_false] at hc
  rcases hc with rfl | rfl | rfl | rfl | rfl | rfl | rfl | rfl
  · exact w_c0
  · exact w_c1
  · exact w_c2
  · exact w_c3
  · exact w_c4
  · exact w_c5
  · exact w_c6
  · exact w_c7
set_option maxRecDepth 65536 in
theorem w_t1 : (words1.take 24).all (fun c => isCode c || c.before args0 about1) = true := by decide +kernel
set_option maxRecDepth 65536 in
theorem w_t2 : ((words1.drop 24).take 24).all (fun c => isCode c || c.before args0 about1) = true := by decide +kernel
set_option maxRecDepth 65536 in
theorem w_t3 : ((words1.drop 24).drop 24).all (fun c => isCode c || c.before args0 about1) = true := by decide +kernel
theorem w_tables : (allAtoms (Jvm.Cond.code x code maxLocals ret :: tables_1)).before args0 about1 = true := by
  rw [allAtoms_all]
  show words1.all (fun c => c.before args0 about1) = true
  refine all_split ?_ w_codes
  rw [← List.take_append_drop 24 words1, List.all_append, w_t1, ← List.take_append_drop 24 (words1.drop 24), List.all_append, w_t2, w_t3]
  rfl
set_option maxRecDepth 65536 in
theorem w_rest : rest_1_c.before args0 about1 = true := by decide +kernel
set_option maxRecDepth 65536 in
theorem w_case : (Jvm.Cond.and given_1 narrow_1).before args0 about1 = true := by decide +kernel
theorem w_applies : (headSpec (Jvm.Cond.code x code maxLocals ret :: tables_1) room_1).applies x e0.platform about1 = true :=
  (Spec.applies_iff w_frames).mpr ⟨w_running, w_runnable, w_alone, w_named, w_hears, w_ripe, w_room, w_tables⟩
theorem atStart : AtStart classFile x code maxLocals ret World_1 tables_1 room_1 Calls_1 rest_1 Pre_1 launch0 p0 e0 about1 theMethod args0 below0 :=
  ⟨lists_1, trivial, launch0.admits_env _ _ _, launch0.least_env, fairChoices_fair.cas, fairChoices_fair.clock, w_frames, w_args, w_heap, w_applies, trivial, w_rest, w_case⟩
end start1
theorem witness_1 : WitnessClaimed_1 := ⟨start1.p0, start1.e0, start1.about1, start1.theMethod, start1.args0, start1.below0, start1.atStart⟩
end Jvm.Pilot.@@N@@
